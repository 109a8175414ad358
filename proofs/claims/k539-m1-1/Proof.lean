import JvmDerived
import JvmDerived.Pilot.@@N@@Statement
import JvmDerived.Pilot.@@N@@Code
set_option linter.unusedVariables false
set_option linter.unusedSimpArgs false
@@BLOCK:TracedD.lean.txt@@
namespace Jvm.Pilot.@@N@@
namespace W
open Jvm Jvm.ClassFile Sem Op Lib Jvm.Free Jvm.Stand Jvm.LawKit Jvm.RoadKit Bundle
/-- from U the run comes to an end that says G -/
def Go (tb : Tables) (e : Env) (below : List Frame) (G : Outcome → State → Prop) (U : State) : Prop := ∃ s₂ o, Steps tb e below U s₂ ∧ s₂.status = .running ∧ Ended s₂ below o ∧ G o s₂
theorem Go.via {tb : Tables} {e : Env} {below : List Frame} {G : Outcome → State → Prop} {U V : State} (f : ∀ t, Steps tb e below V t → Steps tb e below U t) (k : Go tb e below G V) : Go tb e below G U := by
  obtain ⟨s₂, o, h1, h⟩ := k; exact ⟨s₂, o, f _ h1, h⟩
theorem Go.tr {tb : Tables} {e : Env} {below : List Frame} {G : Outcome → State → Prop} {U V : State} (f : Steps tb e below U V) (k : Go tb e below G V) : Go tb e below G U := by
  obtain ⟨s₂, o, h1, h⟩ := k; exact ⟨s₂, o, f.trans h1, h⟩
/-- what a comparison of two ints says -/
abbrev cv (cd : ClassFile.Cond) (a b : Int32) : Prop := match cd with
  | .eq => a = b
  | .ne => ¬ a = b
  | .lt => a < b
  | .ge => ¬ a < b
  | .gt => b < a
  | .le => ¬ b < a
theorem cvY {cd : ClassFile.Cond} {a b : Int32} (q : cv cd a b) : if_icmp.holds cd a b = true := by
  cases cd
  · exact (teq q).1
  · exact (feq q).2
  · exact (tlt q).1
  · exact (flt q).2.1
  · exact (tlt q).2.2.1
  · exact (flt q).2.2.2
theorem cvN {cd : ClassFile.Cond} {a b : Int32} (q : ¬ cv cd a b) : if_icmp.holds cd a b = false := by
  cases cd
  · exact (feq q).1
  · exact (teq (Decidable.byContradiction q)).2
  · exact (flt q).1
  · exact (tlt (Decidable.byContradiction q)).2.1
  · exact (flt q).2.2.1
  · exact (tlt (Decidable.byContradiction q)).2.2.2
theorem cvD (cd : ClassFile.Cond) (a b : Int32) : cv cd a b ∨ ¬ cv cd a b := Classical.em _
abbrev Q0 (p : Program) (T : State) (m : MethodId) (c : Code) (below : List Frame) (code : ByteArray) : Prop := At T m c below ∧ p.tables.exec = Jvm.exec ∧ c.code = code
theorem catR {v : Value} (h : v.isRef = true) : v.category = 1 := by cases v <;> first | rfl | cases h
theorem stR {ls ls2 : Array Slot} {k : Nat} {v : Value} {o : Slot} (hv : v.isRef = true) (hold : ls[k]? = some o) (ho : One o) (h2 : ls.setIfInBounds k (.val v) = ls2) : storeLocals ls k v = some ls2 := by
  rw [← h2]; exact Jvm.Free.XS.store1 hold ho (catR hv)
section Plain
variable {p : Program} {e : Env} {below : List Frame} {G : Outcome → State → Prop} {T : State} {m : MethodId} {c : Code} {code : ByteArray} {pc pc1 pc2 : Nat} {ls ls2 : Array Slot} {st : List Value}

theorem g_iloadN (q : Q0 p T m c below code) {k : Fin 4} {v : Int32} (hd : decode code pc = .ok (.iload_n k, 1)) (hl : ls[k.val]? = some (.val (.int v))) (hp : pc + 1 = pc1) (K : Go p.tables e below G (T.setTop (mkF m pc1 ls (.int v :: st)))) : Go p.tables e below G (T.setTop (mkF m pc ls st)) := by
  subst hp; exact Go.via (fun _ k => Jvm.Free.XS.iloadN q.1 q.2.1 rfl (hb q.2.2 hd) hl k) K
theorem g_aloadN (q : Q0 p T m c below code) {k : Fin 4} {v : Value} (hd : decode code pc = .ok (.aload_n k, 1)) (hl : ls[k.val]? = some (.val v)) (hv : v.isRef = true) (hp : pc + 1 = pc1) (K : Go p.tables e below G (T.setTop (mkF m pc1 ls (v :: st)))) : Go p.tables e below G (T.setTop (mkF m pc ls st)) := by
  subst hp; exact Go.via (fun _ k => Jvm.Free.XS.aloadN q.1 q.2.1 rfl (hb q.2.2 hd) hl hv k) K
theorem g_istoreN (q : Q0 p T m c below code) {k : Fin 4} {v : Int32} (hd : decode code pc = .ok (.istore_n k, 1)) (hl : storeLocals ls k.val (.int v) = some ls2) (hp : pc + 1 = pc1) (K : Go p.tables e below G (T.setTop (mkF m pc1 ls2 st))) : Go p.tables e below G (T.setTop (mkF m pc ls (.int v :: st))) := by
  subst hp; exact Go.via (fun _ k => Jvm.Free.XS.istoreN q.1 q.2.1 rfl (hb q.2.2 hd) rfl hl k) K
theorem g_astoreN (q : Q0 p T m c below code) {k : Fin 4} {v : Value} (hd : decode code pc = .ok (.astore_n k, 1)) (hv : v.isRef = true) (hl : storeLocals ls k.val v = some ls2) (hp : pc + 1 = pc1) (K : Go p.tables e below G (T.setTop (mkF m pc1 ls2 st))) : Go p.tables e below G (T.setTop (mkF m pc ls (v :: st))) := by
  subst hp; exact Go.via (fun _ k => Jvm.Free.XS.astoreN q.1 q.2.1 rfl (hb q.2.2 hd) rfl hv hl k) K
theorem g_lloadN (q : Q0 p T m c below code) {k : Fin 4} {v : Int64} (hd : decode code pc = .ok (.lload_n k, 1)) (hl : ls[k.val]? = some (.val (.long v))) (hp : pc + 1 = pc1) (K : Go p.tables e below G (T.setTop (mkF m pc1 ls (.long v :: st)))) : Go p.tables e below G (T.setTop (mkF m pc ls st)) := by
  subst hp; exact Go.via (fun _ k => Jvm.Free.XT.lloadN q.1 q.2.1 rfl (hb q.2.2 hd) hl k) K
theorem g_lstoreN (q : Q0 p T m c below code) {k : Fin 4} {v : Int64} (hd : decode code pc = .ok (.lstore_n k, 1)) (hl : storeLocals ls k.val (.long v) = some ls2) (hp : pc + 1 = pc1) (K : Go p.tables e below G (T.setTop (mkF m pc1 ls2 st))) : Go p.tables e below G (T.setTop (mkF m pc ls (.long v :: st))) := by
  subst hp; exact Go.via (fun _ k => Jvm.Free.XT.lstoreN q.1 q.2.1 rfl (hb q.2.2 hd) rfl hl k) K
theorem g_iload (q : Q0 p T m c below code) {k : Nat} {v : Int32} (hd : decode code pc = .ok (.iload k, 2)) (hl : ls[k]? = some (.val (.int v))) (hp : pc + 2 = pc1) (K : Go p.tables e below G (T.setTop (mkF m pc1 ls (.int v :: st)))) : Go p.tables e below G (T.setTop (mkF m pc ls st)) := by
  subst hp; exact Go.via (fun _ k => Jvm.Free.XS.iload q.1 q.2.1 rfl (hb q.2.2 hd) hl k) K
theorem g_aload (q : Q0 p T m c below code) {k : Nat} {v : Value} (hd : decode code pc = .ok (.aload k, 2)) (hl : ls[k]? = some (.val v)) (hv : v.isRef = true) (hp : pc + 2 = pc1) (K : Go p.tables e below G (T.setTop (mkF m pc1 ls (v :: st)))) : Go p.tables e below G (T.setTop (mkF m pc ls st)) := by
  subst hp; exact Go.via (fun _ k => Jvm.Free.XS.aload q.1 q.2.1 rfl (hb q.2.2 hd) hl hv k) K
theorem g_istore (q : Q0 p T m c below code) {k : Nat} {v : Int32} (hd : decode code pc = .ok (.istore k, 2)) (hl : storeLocals ls k (.int v) = some ls2) (hp : pc + 2 = pc1) (K : Go p.tables e below G (T.setTop (mkF m pc1 ls2 st))) : Go p.tables e below G (T.setTop (mkF m pc ls (.int v :: st))) := by
  subst hp; exact Go.via (fun _ k => Jvm.Free.XS.istore q.1 q.2.1 rfl (hb q.2.2 hd) rfl hl k) K
theorem g_astore (q : Q0 p T m c below code) {k : Nat} {v : Value} (hd : decode code pc = .ok (.astore k, 2)) (hv : v.isRef = true) (hl : storeLocals ls k v = some ls2) (hp : pc + 2 = pc1) (K : Go p.tables e below G (T.setTop (mkF m pc1 ls2 st))) : Go p.tables e below G (T.setTop (mkF m pc ls (v :: st))) := by
  subst hp; exact Go.via (fun _ k => Jvm.Free.XS.astore q.1 q.2.1 rfl (hb q.2.2 hd) rfl hv hl k) K
theorem g_lload (q : Q0 p T m c below code) {k : Nat} {v : Int64} (hd : decode code pc = .ok (.lload k, 2)) (hl : ls[k]? = some (.val (.long v))) (hp : pc + 2 = pc1) (K : Go p.tables e below G (T.setTop (mkF m pc1 ls (.long v :: st)))) : Go p.tables e below G (T.setTop (mkF m pc ls st)) := by
  subst hp; exact Go.via (fun _ k => Jvm.Free.XT.lload q.1 q.2.1 rfl (hb q.2.2 hd) hl k) K
theorem g_lstore (q : Q0 p T m c below code) {k : Nat} {v : Int64} (hd : decode code pc = .ok (.lstore k, 2)) (hl : storeLocals ls k (.long v) = some ls2) (hp : pc + 2 = pc1) (K : Go p.tables e below G (T.setTop (mkF m pc1 ls2 st))) : Go p.tables e below G (T.setTop (mkF m pc ls (.long v :: st))) := by
  subst hp; exact Go.via (fun _ k => Jvm.Free.XT.lstore q.1 q.2.1 rfl (hb q.2.2 hd) rfl hl k) K
theorem g_iconst (q : Q0 p T m c below code) {i : Int} {v : Int32} (hd : decode code pc = .ok (.iconst i, 1)) (hv : Int32.ofInt i = v) (hp : pc + 1 = pc1) (K : Go p.tables e below G (T.setTop (mkF m pc1 ls (.int v :: st)))) : Go p.tables e below G (T.setTop (mkF m pc ls st)) := by
  subst hp; exact Go.via (fun _ k => Jvm.Free.XS.iconst q.1 q.2.1 rfl (hb q.2.2 hd) (hv ▸ k)) K
theorem g_bipush (q : Q0 p T m c below code) {i : Int} {v : Int32} (hd : decode code pc = .ok (.bipush i, 2)) (hv : (Int8.ofInt i).toInt32 = v) (hp : pc + 2 = pc1) (K : Go p.tables e below G (T.setTop (mkF m pc1 ls (.int v :: st)))) : Go p.tables e below G (T.setTop (mkF m pc ls st)) := by
  subst hp; exact Go.via (fun _ k => Jvm.Free.XS.bipush q.1 q.2.1 rfl (hb q.2.2 hd) (hv ▸ k)) K
theorem g_sipush (q : Q0 p T m c below code) {i : Int} {v : Int32} (hd : decode code pc = .ok (.sipush i, 3)) (hv : (Int16.ofInt i).toInt32 = v) (hp : pc + 3 = pc1) (K : Go p.tables e below G (T.setTop (mkF m pc1 ls (.int v :: st)))) : Go p.tables e below G (T.setTop (mkF m pc ls st)) := by
  subst hp; exact Go.via (fun _ k => Jvm.Free.XS.sipush q.1 q.2.1 rfl (hb q.2.2 hd) (hv ▸ k)) K
theorem g_null (q : Q0 p T m c below code)  (hd : decode code pc = .ok (.aconst_null, 1))  (hp : pc + 1 = pc1) (K : Go p.tables e below G (T.setTop (mkF m pc1 ls (.null :: st)))) : Go p.tables e below G (T.setTop (mkF m pc ls st)) := by
  subst hp; exact Go.via (fun _ k => Jvm.Free.XS.aconstNull q.1 q.2.1 rfl (hb q.2.2 hd) k) K
theorem g_iadd (q : Q0 p T m c below code) {x y : Int32} (hd : decode code pc = .ok (.iadd, 1))  (hp : pc + 1 = pc1) (K : Go p.tables e below G (T.setTop (mkF m pc1 ls (.int (x + y) :: st)))) : Go p.tables e below G (T.setTop (mkF m pc ls (.int y :: .int x :: st))) := by
  subst hp; exact Go.via (fun _ k => Jvm.Free.XS.iadd q.1 q.2.1 rfl (hb q.2.2 hd) rfl k) K
theorem g_isub (q : Q0 p T m c below code) {x y : Int32} (hd : decode code pc = .ok (.isub, 1))  (hp : pc + 1 = pc1) (K : Go p.tables e below G (T.setTop (mkF m pc1 ls (.int (x - y) :: st)))) : Go p.tables e below G (T.setTop (mkF m pc ls (.int y :: .int x :: st))) := by
  subst hp; exact Go.via (fun _ k => Jvm.Free.XS.isub q.1 q.2.1 rfl (hb q.2.2 hd) rfl k) K
theorem g_iand (q : Q0 p T m c below code) {x y : Int32} (hd : decode code pc = .ok (.iand, 1))  (hp : pc + 1 = pc1) (K : Go p.tables e below G (T.setTop (mkF m pc1 ls (.int (x &&& y) :: st)))) : Go p.tables e below G (T.setTop (mkF m pc ls (.int y :: .int x :: st))) := by
  subst hp; exact Go.via (fun _ k => Jvm.Free.XS.iand q.1 q.2.1 rfl (hb q.2.2 hd) rfl k) K
theorem g_imul (q : Q0 p T m c below code) {x y : Int32} (hd : decode code pc = .ok (.imul, 1))  (hp : pc + 1 = pc1) (K : Go p.tables e below G (T.setTop (mkF m pc1 ls (.int (x * y) :: st)))) : Go p.tables e below G (T.setTop (mkF m pc ls (.int y :: .int x :: st))) := by
  subst hp; exact Go.via (fun _ k => Jvm.Free.XS.imul q.1 q.2.1 rfl (hb q.2.2 hd) rfl k) K
theorem g_irem (q : Q0 p T m c below code) {x y : Int32} (hd : decode code pc = .ok (.irem, 1)) (hy : y ≠ 0) (hp : pc + 1 = pc1) (K : Go p.tables e below G (T.setTop (mkF m pc1 ls (.int (x - (x / y) * y) :: st)))) : Go p.tables e below G (T.setTop (mkF m pc ls (.int y :: .int x :: st))) := by
  subst hp; exact Go.via (fun _ k => Jvm.Free.XS.irem q.1 q.2.1 rfl (hb q.2.2 hd) rfl hy k) K
theorem g_idiv (q : Q0 p T m c below code) {x y : Int32} (hd : decode code pc = .ok (.idiv, 1)) (hy : y ≠ 0) (hp : pc + 1 = pc1) (K : Go p.tables e below G (T.setTop (mkF m pc1 ls (.int (x / y) :: st)))) : Go p.tables e below G (T.setTop (mkF m pc ls (.int y :: .int x :: st))) := by
  subst hp; exact Go.via (fun _ k => Jvm.Free.XS.idiv q.1 q.2.1 rfl (hb q.2.2 hd) rfl hy k) K
theorem g_ineg (q : Q0 p T m c below code) {x : Int32} (hd : decode code pc = .ok (.ineg, 1))  (hp : pc + 1 = pc1) (K : Go p.tables e below G (T.setTop (mkF m pc1 ls (.int (-x) :: st)))) : Go p.tables e below G (T.setTop (mkF m pc ls (.int x :: st))) := by
  subst hp; exact Go.via (fun _ k => Jvm.Free.XS.ineg q.1 q.2.1 rfl (hb q.2.2 hd) rfl k) K
theorem g_ior (q : Q0 p T m c below code) {x y : Int32} (hd : decode code pc = .ok (.ior, 1))  (hp : pc + 1 = pc1) (K : Go p.tables e below G (T.setTop (mkF m pc1 ls (.int (x ||| y) :: st)))) : Go p.tables e below G (T.setTop (mkF m pc ls (.int y :: .int x :: st))) := by
  subst hp; exact Go.via (fun _ k => Jvm.Free.XT.ior q.1 q.2.1 rfl (hb q.2.2 hd) rfl k) K
theorem g_ixor (q : Q0 p T m c below code) {x y : Int32} (hd : decode code pc = .ok (.ixor, 1))  (hp : pc + 1 = pc1) (K : Go p.tables e below G (T.setTop (mkF m pc1 ls (.int (x ^^^ y) :: st)))) : Go p.tables e below G (T.setTop (mkF m pc ls (.int y :: .int x :: st))) := by
  subst hp; exact Go.via (fun _ k => Jvm.Free.XT.ixor q.1 q.2.1 rfl (hb q.2.2 hd) rfl k) K
theorem g_ishl (q : Q0 p T m c below code) {x y : Int32} (hd : decode code pc = .ok (.ishl, 1))  (hp : pc + 1 = pc1) (K : Go p.tables e below G (T.setTop (mkF m pc1 ls (.int (x <<< (y &&& 31)) :: st)))) : Go p.tables e below G (T.setTop (mkF m pc ls (.int y :: .int x :: st))) := by
  subst hp; exact Go.via (fun _ k => Jvm.Free.XT.ishl q.1 q.2.1 rfl (hb q.2.2 hd) rfl k) K
theorem g_ishr (q : Q0 p T m c below code) {x y : Int32} (hd : decode code pc = .ok (.ishr, 1))  (hp : pc + 1 = pc1) (K : Go p.tables e below G (T.setTop (mkF m pc1 ls (.int (x >>> (y &&& 31)) :: st)))) : Go p.tables e below G (T.setTop (mkF m pc ls (.int y :: .int x :: st))) := by
  subst hp; exact Go.via (fun _ k => Jvm.Free.XT.ishr q.1 q.2.1 rfl (hb q.2.2 hd) rfl k) K
theorem g_iushr (q : Q0 p T m c below code) {x y : Int32} (hd : decode code pc = .ok (.iushr, 1))  (hp : pc + 1 = pc1) (K : Go p.tables e below G (T.setTop (mkF m pc1 ls (.int (Jvm.Free.XT.ushr x y) :: st)))) : Go p.tables e below G (T.setTop (mkF m pc ls (.int y :: .int x :: st))) := by
  subst hp; exact Go.via (fun _ k => Jvm.Free.XT.iushr q.1 q.2.1 rfl (hb q.2.2 hd) rfl k) K
theorem g_i2b (q : Q0 p T m c below code) {x : Int32} (hd : decode code pc = .ok (.i2b, 1))  (hp : pc + 1 = pc1) (K : Go p.tables e below G (T.setTop (mkF m pc1 ls (.int (x.toInt8.toInt32) :: st)))) : Go p.tables e below G (T.setTop (mkF m pc ls (.int x :: st))) := by
  subst hp; exact Go.via (fun _ k => Jvm.Free.XT.i2b q.1 q.2.1 rfl (hb q.2.2 hd) rfl k) K
theorem g_i2c (q : Q0 p T m c below code) {x : Int32} (hd : decode code pc = .ok (.i2c, 1))  (hp : pc + 1 = pc1) (K : Go p.tables e below G (T.setTop (mkF m pc1 ls (.int (x.toUInt32.toUInt16.toUInt32.toInt32) :: st)))) : Go p.tables e below G (T.setTop (mkF m pc ls (.int x :: st))) := by
  subst hp; exact Go.via (fun _ k => Jvm.Free.XT.i2c q.1 q.2.1 rfl (hb q.2.2 hd) rfl k) K
theorem g_i2s (q : Q0 p T m c below code) {x : Int32} (hd : decode code pc = .ok (.i2s, 1))  (hp : pc + 1 = pc1) (K : Go p.tables e below G (T.setTop (mkF m pc1 ls (.int (x.toInt16.toInt32) :: st)))) : Go p.tables e below G (T.setTop (mkF m pc ls (.int x :: st))) := by
  subst hp; exact Go.via (fun _ k => Jvm.Free.XT.i2s q.1 q.2.1 rfl (hb q.2.2 hd) rfl k) K
theorem g_i2l (q : Q0 p T m c below code) {x : Int32} (hd : decode code pc = .ok (.i2l, 1))  (hp : pc + 1 = pc1) (K : Go p.tables e below G (T.setTop (mkF m pc1 ls (.long x.toInt64 :: st)))) : Go p.tables e below G (T.setTop (mkF m pc ls (.int x :: st))) := by
  subst hp; exact Go.via (fun _ k => Jvm.Free.XT.i2l q.1 q.2.1 rfl (hb q.2.2 hd) rfl k) K
theorem g_l2i (q : Q0 p T m c below code) {x : Int64} (hd : decode code pc = .ok (.l2i, 1))  (hp : pc + 1 = pc1) (K : Go p.tables e below G (T.setTop (mkF m pc1 ls (.int x.toInt32 :: st)))) : Go p.tables e below G (T.setTop (mkF m pc ls (.long x :: st))) := by
  subst hp; exact Go.via (fun _ k => Jvm.Free.XT.l2i q.1 q.2.1 rfl (hb q.2.2 hd) rfl k) K
theorem g_ladd (q : Q0 p T m c below code) {x y : Int64} (hd : decode code pc = .ok (.ladd, 1))  (hp : pc + 1 = pc1) (K : Go p.tables e below G (T.setTop (mkF m pc1 ls (.long (x + y) :: st)))) : Go p.tables e below G (T.setTop (mkF m pc ls (.long y :: .long x :: st))) := by
  subst hp; exact Go.via (fun _ k => Jvm.Free.XT.ladd q.1 q.2.1 rfl (hb q.2.2 hd) rfl k) K
theorem g_lsub (q : Q0 p T m c below code) {x y : Int64} (hd : decode code pc = .ok (.lsub, 1))  (hp : pc + 1 = pc1) (K : Go p.tables e below G (T.setTop (mkF m pc1 ls (.long (x - y) :: st)))) : Go p.tables e below G (T.setTop (mkF m pc ls (.long y :: .long x :: st))) := by
  subst hp; exact Go.via (fun _ k => Jvm.Free.XT.lsub q.1 q.2.1 rfl (hb q.2.2 hd) rfl k) K
theorem g_lmul (q : Q0 p T m c below code) {x y : Int64} (hd : decode code pc = .ok (.lmul, 1))  (hp : pc + 1 = pc1) (K : Go p.tables e below G (T.setTop (mkF m pc1 ls (.long (x * y) :: st)))) : Go p.tables e below G (T.setTop (mkF m pc ls (.long y :: .long x :: st))) := by
  subst hp; exact Go.via (fun _ k => Jvm.Free.XT.lmul q.1 q.2.1 rfl (hb q.2.2 hd) rfl k) K
theorem g_land (q : Q0 p T m c below code) {x y : Int64} (hd : decode code pc = .ok (.land, 1))  (hp : pc + 1 = pc1) (K : Go p.tables e below G (T.setTop (mkF m pc1 ls (.long (x &&& y) :: st)))) : Go p.tables e below G (T.setTop (mkF m pc ls (.long y :: .long x :: st))) := by
  subst hp; exact Go.via (fun _ k => Jvm.Free.XT.land q.1 q.2.1 rfl (hb q.2.2 hd) rfl k) K
theorem g_lor (q : Q0 p T m c below code) {x y : Int64} (hd : decode code pc = .ok (.lor, 1))  (hp : pc + 1 = pc1) (K : Go p.tables e below G (T.setTop (mkF m pc1 ls (.long (x ||| y) :: st)))) : Go p.tables e below G (T.setTop (mkF m pc ls (.long y :: .long x :: st))) := by
  subst hp; exact Go.via (fun _ k => Jvm.Free.XT.lor q.1 q.2.1 rfl (hb q.2.2 hd) rfl k) K
theorem g_lshl (q : Q0 p T m c below code) {x : Int64} {y : Int32} (hd : decode code pc = .ok (.lshl, 1))  (hp : pc + 1 = pc1) (K : Go p.tables e below G (T.setTop (mkF m pc1 ls (.long (x <<< (y.toInt64 &&& 63)) :: st)))) : Go p.tables e below G (T.setTop (mkF m pc ls (.int y :: .long x :: st))) := by
  subst hp; exact Go.via (fun _ k => Jvm.Free.XT.lshl q.1 q.2.1 rfl (hb q.2.2 hd) rfl k) K
theorem g_lshr (q : Q0 p T m c below code) {x : Int64} {y : Int32} (hd : decode code pc = .ok (.lshr, 1))  (hp : pc + 1 = pc1) (K : Go p.tables e below G (T.setTop (mkF m pc1 ls (.long (x >>> (y.toInt64 &&& 63)) :: st)))) : Go p.tables e below G (T.setTop (mkF m pc ls (.int y :: .long x :: st))) := by
  subst hp; exact Go.via (fun _ k => Jvm.Free.XT.lshr q.1 q.2.1 rfl (hb q.2.2 hd) rfl k) K
theorem g_lushr (q : Q0 p T m c below code) {x : Int64} {y : Int32} (hd : decode code pc = .ok (.lushr, 1))  (hp : pc + 1 = pc1) (K : Go p.tables e below G (T.setTop (mkF m pc1 ls (.long (Jvm.Free.XT.ushrL x y) :: st)))) : Go p.tables e below G (T.setTop (mkF m pc ls (.int y :: .long x :: st))) := by
  subst hp; exact Go.via (fun _ k => Jvm.Free.XT.lushr q.1 q.2.1 rfl (hb q.2.2 hd) rfl k) K
theorem g_lrem (q : Q0 p T m c below code) {x y : Int64} (hd : decode code pc = .ok (.lrem, 1)) (hy : y ≠ 0) (hp : pc + 1 = pc1) (K : Go p.tables e below G (T.setTop (mkF m pc1 ls (.long (x - (x / y) * y) :: st)))) : Go p.tables e below G (T.setTop (mkF m pc ls (.long y :: .long x :: st))) := by
  subst hp; exact Go.via (fun _ k => Jvm.Free.XT.lrem q.1 q.2.1 rfl (hb q.2.2 hd) rfl hy k) K
theorem g_lneg (q : Q0 p T m c below code) {x : Int64} (hd : decode code pc = .ok (.lneg, 1))  (hp : pc + 1 = pc1) (K : Go p.tables e below G (T.setTop (mkF m pc1 ls (.long (-x) :: st)))) : Go p.tables e below G (T.setTop (mkF m pc ls (.long x :: st))) := by
  subst hp; exact Go.via (fun _ k => Jvm.Free.XT.lneg q.1 q.2.1 rfl (hb q.2.2 hd) rfl k) K
theorem g_lcmp (q : Q0 p T m c below code) {x y : Int64} (hd : decode code pc = .ok (.lcmp, 1))  (hp : pc + 1 = pc1) (K : Go p.tables e below G (T.setTop (mkF m pc1 ls (.int (Jvm.Free.XT.cmpL x y) :: st)))) : Go p.tables e below G (T.setTop (mkF m pc ls (.long y :: .long x :: st))) := by
  subst hp; exact Go.via (fun _ k => Jvm.Free.XT.lcmp q.1 q.2.1 rfl (hb q.2.2 hd) rfl k) K
theorem g_lconst (q : Q0 p T m c below code) {i : Fin 2} {v : Int64} (hd : decode code pc = .ok (.lconst i, 1)) (hv : Int64.ofNat i.val = v) (hp : pc + 1 = pc1) (K : Go p.tables e below G (T.setTop (mkF m pc1 ls (.long v :: st)))) : Go p.tables e below G (T.setTop (mkF m pc ls st)) := by
  subst hp; exact Go.via (fun _ k => Jvm.Free.XT.lconst q.1 q.2.1 rfl (hb q.2.2 hd) (hv ▸ k)) K
theorem g_iinc (q : Q0 p T m c below code) {k : Nat} {i : Int} {v : Int32} (hd : decode code pc = .ok (.iinc k i, 3)) (hl : ls[k]? = some (.val (.int v))) (hl2 : storeLocals ls k (.int (v + Int32.ofInt i)) = some ls2) (hp : pc + 3 = pc1) (K : Go p.tables e below G (T.setTop (mkF m pc1 ls2 st))) : Go p.tables e below G (T.setTop (mkF m pc ls st)) := by
  subst hp; exact Go.via (fun _ k => Jvm.Free.XS.iinc q.1 q.2.1 rfl (hb q.2.2 hd) hl hl2 k) K
theorem g_dup (q : Q0 p T m c below code) {x : Value} (hd : decode code pc = .ok (.dup, 1)) (hc : x.category = 1) (hp : pc + 1 = pc1) (K : Go p.tables e below G (T.setTop (mkF m pc1 ls (x :: x :: st)))) : Go p.tables e below G (T.setTop (mkF m pc ls (x :: st))) := by
  subst hp; exact Go.via (fun _ k => Jvm.Free.XS.dup q.1 q.2.1 rfl (hb q.2.2 hd) rfl hc k) K
theorem g_pop (q : Q0 p T m c below code) {x : Value} (hd : decode code pc = .ok (.pop, 1)) (hc : x.category = 1) (hp : pc + 1 = pc1) (K : Go p.tables e below G (T.setTop (mkF m pc1 ls st))) : Go p.tables e below G (T.setTop (mkF m pc ls (x :: st))) := by
  subst hp; exact Go.via (fun _ k => Jvm.Free.XT.pop q.1 q.2.1 rfl (hb q.2.2 hd) rfl hc k) K
theorem g_dup2 (q : Q0 p T m c below code) {x y : Value} (hd : decode code pc = .ok (.dup2, 1)) (hc : x.category = 1) (hc2 : y.category = 1) (hp : pc + 1 = pc1) (K : Go p.tables e below G (T.setTop (mkF m pc1 ls (x :: y :: x :: y :: st)))) : Go p.tables e below G (T.setTop (mkF m pc ls (x :: y :: st))) := by
  subst hp; exact Go.via (fun _ k => Jvm.Free.XT.dup2 q.1 q.2.1 rfl (hb q.2.2 hd) rfl hc hc2 k) K
theorem g_dloadN (q : Q0 p T m c below code) {k : Fin 4} {v : UInt64} (hd : decode code pc = .ok (.dload_n k, 1)) (hl : ls[k.val]? = some (.val (.double v))) (hp : pc + 1 = pc1) (K : Go p.tables e below G (T.setTop (mkF m pc1 ls (.double v :: st)))) : Go p.tables e below G (T.setTop (mkF m pc ls st)) := by
  subst hp; exact Go.via (fun _ k => Jvm.Free.XS.dloadN q.1 q.2.1 rfl (hb q.2.2 hd) hl k) K
theorem g_dstoreN (q : Q0 p T m c below code) {k : Fin 4} {v : UInt64} (hd : decode code pc = .ok (.dstore_n k, 1)) (hl : storeLocals ls k.val (.double v) = some ls2) (hp : pc + 1 = pc1) (K : Go p.tables e below G (T.setTop (mkF m pc1 ls2 st))) : Go p.tables e below G (T.setTop (mkF m pc ls (.double v :: st))) := by
  subst hp; exact Go.via (fun _ k => Jvm.Free.XS.dstoreN q.1 q.2.1 rfl (hb q.2.2 hd) rfl hl k) K
theorem g_dload (q : Q0 p T m c below code) {k : Nat} {v : UInt64} (hd : decode code pc = .ok (.dload k, 2)) (hl : ls[k]? = some (.val (.double v))) (hp : pc + 2 = pc1) (K : Go p.tables e below G (T.setTop (mkF m pc1 ls (.double v :: st)))) : Go p.tables e below G (T.setTop (mkF m pc ls st)) := by
  subst hp; exact Go.via (fun _ k => Jvm.Free.XS.dload q.1 q.2.1 rfl (hb q.2.2 hd) hl k) K
theorem g_dstore (q : Q0 p T m c below code) {k : Nat} {v : UInt64} (hd : decode code pc = .ok (.dstore k, 2)) (hl : storeLocals ls k (.double v) = some ls2) (hp : pc + 2 = pc1) (K : Go p.tables e below G (T.setTop (mkF m pc1 ls2 st))) : Go p.tables e below G (T.setTop (mkF m pc ls (.double v :: st))) := by
  subst hp; exact Go.via (fun _ k => Jvm.Free.XS.dstore q.1 q.2.1 rfl (hb q.2.2 hd) rfl hl k) K
theorem g_dconst0 (q : Q0 p T m c below code)  (hd : decode code pc = .ok (.dconst 0, 1))  (hp : pc + 1 = pc1) (K : Go p.tables e below G (T.setTop (mkF m pc1 ls (.double 0 :: st)))) : Go p.tables e below G (T.setTop (mkF m pc ls st)) := by
  subst hp; exact Go.via (fun _ k => Jvm.Free.XS.dconst0 q.1 q.2.1 rfl (hb q.2.2 hd) (by decide +kernel) k) K
theorem g_i2d (q : Q0 p T m c below code) {x : Int32} (hd : decode code pc = .ok (.i2d, 1))  (hp : pc + 1 = pc1) (K : Go p.tables e below G (T.setTop (mkF m pc1 ls (.double (FP.i2d x) :: st)))) : Go p.tables e below G (T.setTop (mkF m pc ls (.int x :: st))) := by
  subst hp; exact Go.via (fun _ k => Jvm.Free.XS.i2dS q.1 q.2.1 rfl (hb q.2.2 hd) rfl rfl k) K
theorem g_l2d (q : Q0 p T m c below code) {x : Int64} (hd : decode code pc = .ok (.l2d, 1))  (hp : pc + 1 = pc1) (K : Go p.tables e below G (T.setTop (mkF m pc1 ls (.double (FP.l2d x) :: st)))) : Go p.tables e below G (T.setTop (mkF m pc ls (.long x :: st))) := by
  subst hp; exact Go.via (fun _ k => Jvm.Free.XS.l2dS q.1 q.2.1 rfl (hb q.2.2 hd) rfl rfl k) K
theorem g_dcmp (q : Q0 p T m c below code) {o : CmpOp} {x y : UInt64} (hd : decode code pc = .ok (.dcmp o, 1))  (hp : pc + 1 = pc1) (K : Go p.tables e below G (T.setTop (mkF m pc1 ls (.int (cmpValue (FP.dcmp x y) o) :: st)))) : Go p.tables e below G (T.setTop (mkF m pc ls (.double y :: .double x :: st))) := by
  subst hp; exact Go.via (fun _ k => Jvm.Free.XS.dcmpS q.1 q.2.1 rfl (hb q.2.2 hd) rfl rfl k) K
theorem g_dadd (q : Q0 p T m c below code) {x y : UInt64} (hd : decode code pc = .ok (.dadd, 1)) (hn : Jvm.Free.Fl.NoNaN64 (FP.dadd x y)) (hp : pc + 1 = pc1) (K : Go p.tables e below G (T.setTop (mkF m pc1 ls (.double (FP.dadd x y) :: st)))) : Go p.tables e below G (T.setTop (mkF m pc ls (.double y :: .double x :: st))) := by
  subst hp; exact Go.via (fun _ k => Jvm.Free.XS.daddS q.1 q.2.1 rfl (hb q.2.2 hd) rfl hn rfl k) K
theorem g_dmul (q : Q0 p T m c below code) {x y : UInt64} (hd : decode code pc = .ok (.dmul, 1)) (hn : Jvm.Free.Fl.NoNaN64 (FP.dmul x y)) (hp : pc + 1 = pc1) (K : Go p.tables e below G (T.setTop (mkF m pc1 ls (.double (FP.dmul x y) :: st)))) : Go p.tables e below G (T.setTop (mkF m pc ls (.double y :: .double x :: st))) := by
  subst hp; exact Go.via (fun _ k => Jvm.Free.XS.dmulS q.1 q.2.1 rfl (hb q.2.2 hd) rfl hn rfl k) K
theorem g_floadN (q : Q0 p T m c below code) {k : Fin 4} {v : UInt32} (hd : decode code pc = .ok (.fload_n k, 1)) (hl : ls[k.val]? = some (.val (.float v))) (hp : pc + 1 = pc1) (K : Go p.tables e below G (T.setTop (mkF m pc1 ls (.float v :: st)))) : Go p.tables e below G (T.setTop (mkF m pc ls st)) := by
  subst hp; exact Go.via (fun _ k => Jvm.Free.XS.floadN q.1 q.2.1 rfl (hb q.2.2 hd) hl k) K
theorem g_fstoreN (q : Q0 p T m c below code) {k : Fin 4} {v : UInt32} (hd : decode code pc = .ok (.fstore_n k, 1)) (hl : storeLocals ls k.val (.float v) = some ls2) (hp : pc + 1 = pc1) (K : Go p.tables e below G (T.setTop (mkF m pc1 ls2 st))) : Go p.tables e below G (T.setTop (mkF m pc ls (.float v :: st))) := by
  subst hp; exact Go.via (fun _ k => Jvm.Free.XS.fstoreN q.1 q.2.1 rfl (hb q.2.2 hd) rfl hl k) K
theorem g_fload (q : Q0 p T m c below code) {k : Nat} {v : UInt32} (hd : decode code pc = .ok (.fload k, 2)) (hl : ls[k]? = some (.val (.float v))) (hp : pc + 2 = pc1) (K : Go p.tables e below G (T.setTop (mkF m pc1 ls (.float v :: st)))) : Go p.tables e below G (T.setTop (mkF m pc ls st)) := by
  subst hp; exact Go.via (fun _ k => Jvm.Free.XS.fload q.1 q.2.1 rfl (hb q.2.2 hd) hl k) K
theorem g_fstore (q : Q0 p T m c below code) {k : Nat} {v : UInt32} (hd : decode code pc = .ok (.fstore k, 2)) (hl : storeLocals ls k (.float v) = some ls2) (hp : pc + 2 = pc1) (K : Go p.tables e below G (T.setTop (mkF m pc1 ls2 st))) : Go p.tables e below G (T.setTop (mkF m pc ls (.float v :: st))) := by
  subst hp; exact Go.via (fun _ k => Jvm.Free.XS.fstore q.1 q.2.1 rfl (hb q.2.2 hd) rfl hl k) K
theorem g_i2f (q : Q0 p T m c below code) {x : Int32} (hd : decode code pc = .ok (.i2f, 1))  (hp : pc + 1 = pc1) (K : Go p.tables e below G (T.setTop (mkF m pc1 ls (.float (FP.i2f x) :: st)))) : Go p.tables e below G (T.setTop (mkF m pc ls (.int x :: st))) := by
  subst hp; exact Go.via (fun _ k => Jvm.Free.XS.i2fS q.1 q.2.1 rfl (hb q.2.2 hd) rfl rfl k) K
theorem g_f2d (q : Q0 p T m c below code) {x : UInt32} (hd : decode code pc = .ok (.f2d, 1)) (hn : Jvm.Free.Fl.NoNaN64 (FP.f2d x)) (hp : pc + 1 = pc1) (K : Go p.tables e below G (T.setTop (mkF m pc1 ls (.double (FP.f2d x) :: st)))) : Go p.tables e below G (T.setTop (mkF m pc ls (.float x :: st))) := by
  subst hp; exact Go.via (fun _ k => Jvm.Free.XS.f2dS q.1 q.2.1 rfl (hb q.2.2 hd) rfl hn rfl k) K
theorem g_dconst1 (q : Q0 p T m c below code)  (hd : decode code pc = .ok (.dconst 1, 1))  (hp : pc + 1 = pc1) (K : Go p.tables e below G (T.setTop (mkF m pc1 ls (.double 4607182418800017408 :: st)))) : Go p.tables e below G (T.setTop (mkF m pc ls st)) := by
  subst hp; exact Go.via (fun _ k => Jvm.Free.XS.dconst1 q.1 q.2.1 rfl (hb q.2.2 hd) (by decide +kernel) k) K
theorem g_dneg (q : Q0 p T m c below code) {x : UInt64} (hd : decode code pc = .ok (.dneg, 1))  (hp : pc + 1 = pc1) (K : Go p.tables e below G (T.setTop (mkF m pc1 ls (.double (FP.dneg x) :: st)))) : Go p.tables e below G (T.setTop (mkF m pc ls (.double x :: st))) := by
  subst hp; exact Go.via (fun _ k => Jvm.Free.XS.dnegS q.1 q.2.1 rfl (hb q.2.2 hd) rfl rfl k) K
theorem g_dsub (q : Q0 p T m c below code) {x y : UInt64} (hd : decode code pc = .ok (.dsub, 1)) (hn : Jvm.Free.Fl.NoNaN64 (FP.dsub x y)) (hp : pc + 1 = pc1) (K : Go p.tables e below G (T.setTop (mkF m pc1 ls (.double (FP.dsub x y) :: st)))) : Go p.tables e below G (T.setTop (mkF m pc ls (.double y :: .double x :: st))) := by
  subst hp; exact Go.via (fun _ k => Jvm.Free.XS.dsubS q.1 q.2.1 rfl (hb q.2.2 hd) rfl hn rfl k) K
theorem g_ddiv (q : Q0 p T m c below code) {x y : UInt64} (hd : decode code pc = .ok (.ddiv, 1)) (hn : Jvm.Free.Fl.NoNaN64 (FP.ddiv x y)) (hp : pc + 1 = pc1) (K : Go p.tables e below G (T.setTop (mkF m pc1 ls (.double (FP.ddiv x y) :: st)))) : Go p.tables e below G (T.setTop (mkF m pc ls (.double y :: .double x :: st))) := by
  subst hp; exact Go.via (fun _ k => Jvm.Free.XS.ddivS q.1 q.2.1 rfl (hb q.2.2 hd) rfl hn rfl k) K
theorem g_goto (q : Q0 p T m c below code) {o : Int} (hd : decode code pc = .ok (.goto o, 3)) (ho : 0 ≤ (pc : Int) + o) (hp : ((pc : Int) + o).toNat = pc1) (K : Go p.tables e below G (T.setTop (mkF m pc1 ls st))) : Go p.tables e below G (T.setTop (mkF m pc ls st)) :=
  Go.via (fun _ k => Jvm.Free.XS.goto q.1 q.2.1 rfl rfl (hb q.2.2 hd) ho hp k) K
theorem g_ifY (q : Q0 p T m c below code) {cd : ClassFile.Cond} {x : Int32} {o : Int} (hd : decode code pc = .ok (.ifCond cd o, 3)) (ho : 0 ≤ (pc : Int) + o) (hp : ((pc : Int) + o).toNat = pc1) (h : cv cd x 0) (K : Go p.tables e below G (T.setTop (mkF m pc1 ls st))) : Go p.tables e below G (T.setTop (mkF m pc ls (.int x :: st))) :=
  Go.via (fun _ k => Jvm.Free.XS.ifYes q.1 q.2.1 rfl rfl (hb q.2.2 hd) rfl (by rw [if0]; exact cvY h) ho hp k) K
theorem g_ifN (q : Q0 p T m c below code) {cd : ClassFile.Cond} {x : Int32} {o : Int} (hd : decode code pc = .ok (.ifCond cd o, 3)) (hp : pc + 3 = pc2) (h : ¬ cv cd x 0) (K : Go p.tables e below G (T.setTop (mkF m pc2 ls st))) : Go p.tables e below G (T.setTop (mkF m pc ls (.int x :: st))) := by
  subst hp; exact Go.via (fun _ k => Jvm.Free.XS.ifNo q.1 q.2.1 rfl (hb q.2.2 hd) rfl (by rw [if0]; exact cvN h) k) K
theorem g_if (q : Q0 p T m c below code) {cd : ClassFile.Cond} {x : Int32} {o : Int} (hd : decode code pc = .ok (.ifCond cd o, 3)) (ho : 0 ≤ (pc : Int) + o) (hp : ((pc : Int) + o).toNat = pc1) (hp2 : pc + 3 = pc2) (K : cv cd x 0 → Go p.tables e below G (T.setTop (mkF m pc1 ls st))) (K2 : ¬ cv cd x 0 → Go p.tables e below G (T.setTop (mkF m pc2 ls st))) : Go p.tables e below G (T.setTop (mkF m pc ls (.int x :: st))) :=
  (cvD cd x 0).elim (fun h => g_ifY q hd ho hp h (K h)) (fun h => g_ifN q hd hp2 h (K2 h))
theorem g_cmpY (q : Q0 p T m c below code) {cd : ClassFile.Cond} {x y : Int32} {o : Int} (hd : decode code pc = .ok (.if_icmp cd o, 3)) (ho : 0 ≤ (pc : Int) + o) (hp : ((pc : Int) + o).toNat = pc1) (h : cv cd x y) (K : Go p.tables e below G (T.setTop (mkF m pc1 ls st))) : Go p.tables e below G (T.setTop (mkF m pc ls (.int y :: .int x :: st))) :=
  Go.via (fun _ k => Jvm.Free.XS.icmpYes q.1 q.2.1 rfl rfl (hb q.2.2 hd) rfl (cvY h) ho hp k) K
theorem g_cmpN (q : Q0 p T m c below code) {cd : ClassFile.Cond} {x y : Int32} {o : Int} (hd : decode code pc = .ok (.if_icmp cd o, 3)) (hp : pc + 3 = pc2) (h : ¬ cv cd x y) (K : Go p.tables e below G (T.setTop (mkF m pc2 ls st))) : Go p.tables e below G (T.setTop (mkF m pc ls (.int y :: .int x :: st))) := by
  subst hp; exact Go.via (fun _ k => Jvm.Free.XS.icmpNo q.1 q.2.1 rfl (hb q.2.2 hd) rfl (cvN h) k) K
theorem g_cmp (q : Q0 p T m c below code) {cd : ClassFile.Cond} {x y : Int32} {o : Int} (hd : decode code pc = .ok (.if_icmp cd o, 3)) (ho : 0 ≤ (pc : Int) + o) (hp : ((pc : Int) + o).toNat = pc1) (hp2 : pc + 3 = pc2) (K : cv cd x y → Go p.tables e below G (T.setTop (mkF m pc1 ls st))) (K2 : ¬ cv cd x y → Go p.tables e below G (T.setTop (mkF m pc2 ls st))) : Go p.tables e below G (T.setTop (mkF m pc ls (.int y :: .int x :: st))) :=
  (cvD cd x y).elim (fun h => g_cmpY q hd ho hp h (K h)) (fun h => g_cmpN q hd hp2 h (K2 h))
theorem g_nullY (q : Q0 p T m c below code) {o : Int} (hd : decode code pc = .ok (.ifnull o, 3)) (ho : 0 ≤ (pc : Int) + o) (hp : ((pc : Int) + o).toNat = pc1) (K : Go p.tables e below G (T.setTop (mkF m pc1 ls st))) : Go p.tables e below G (T.setTop (mkF m pc ls (.null :: st))) :=
  Go.via (fun _ k => Jvm.Free.XS.ifnullYes q.1 q.2.1 rfl rfl (hb q.2.2 hd) rfl ho hp k) K
theorem g_nullN (q : Q0 p T m c below code) {o : Int} {b : Addr} (hd : decode code pc = .ok (.ifnull o, 3)) (hp : pc + 3 = pc2) (K : Go p.tables e below G (T.setTop (mkF m pc2 ls st))) : Go p.tables e below G (T.setTop (mkF m pc ls (.ref b :: st))) := by
  subst hp; exact Go.via (fun _ k => Jvm.Free.XS.ifnullNo q.1 q.2.1 rfl (hb q.2.2 hd) rfl k) K
theorem g_nonY (q : Q0 p T m c below code) {b : Addr} {o : Int} (hd : decode code pc = .ok (.ifnonnull o, 3)) (ho : 0 ≤ (pc : Int) + o) (hp : ((pc : Int) + o).toNat = pc1) (K : Go p.tables e below G (T.setTop (mkF m pc1 ls st))) : Go p.tables e below G (T.setTop (mkF m pc ls (.ref b :: st))) :=
  Go.via (fun _ k => Jvm.Free.XT.ifnonnullYes q.1 q.2.1 rfl rfl (hb q.2.2 hd) rfl ho hp k) K
theorem g_nonN (q : Q0 p T m c below code) {o : Int} (hd : decode code pc = .ok (.ifnonnull o, 3)) (hp : pc + 3 = pc2) (K : Go p.tables e below G (T.setTop (mkF m pc2 ls st))) : Go p.tables e below G (T.setTop (mkF m pc ls (.null :: st))) := by
  subst hp; exact Go.via (fun _ k => Jvm.Free.XT.ifnonnullNo q.1 q.2.1 rfl (hb q.2.2 hd) rfl k) K
theorem g_acmpY (q : Q0 p T m c below code) {cd : ClassFile.ACond} {x y : Value} {o : Int} (hd : decode code pc = .ok (.if_acmp cd o, 3)) (ho : 0 ≤ (pc : Int) + o) (hp : ((pc : Int) + o).toNat = pc1) (hx : x.isRef = true) (hy : y.isRef = true) (h : Jvm.Free.XT.acmp cd x y = true) (K : Go p.tables e below G (T.setTop (mkF m pc1 ls st))) : Go p.tables e below G (T.setTop (mkF m pc ls (y :: x :: st))) :=
  Go.via (fun _ k => Jvm.Free.XT.acmpYes q.1 q.2.1 rfl rfl (hb q.2.2 hd) rfl hx hy h ho hp k) K
theorem g_acmpN (q : Q0 p T m c below code) {cd : ClassFile.ACond} {x y : Value} {o : Int} (hd : decode code pc = .ok (.if_acmp cd o, 3)) (hp : pc + 3 = pc2) (hx : x.isRef = true) (hy : y.isRef = true) (h : Jvm.Free.XT.acmp cd x y = false) (K : Go p.tables e below G (T.setTop (mkF m pc2 ls st))) : Go p.tables e below G (T.setTop (mkF m pc ls (y :: x :: st))) := by
  subst hp; exact Go.via (fun _ k => Jvm.Free.XT.acmpNo q.1 q.2.1 rfl (hb q.2.2 hd) rfl hx hy h k) K
theorem g_tsw (q : Q0 p T m c below code) {dflt low high : Int} {offs : Array Int} {len : Nat} {o : Int} {i : Int32} (hd : decode code pc = .ok (.tableswitch dflt low high offs, len)) (hin : ¬ (i.toInt < low ∨ i.toInt > high)) (hoff : offs[(i.toInt - low).toNat]? = some o) (ho : 0 ≤ (pc : Int) + o) (hp : ((pc : Int) + o).toNat = pc1) (K : Go p.tables e below G (T.setTop (mkF m pc1 ls st))) : Go p.tables e below G (T.setTop (mkF m pc ls (.int i :: st))) :=
  Go.via (fun _ k => Jvm.Free.XS.tswIn q.1 q.2.1 rfl rfl (hb q.2.2 hd) rfl hin hoff ho hp k) K
end Plain
/-- every place lies in a cell of wl, or in one made since -/
def Frw (wl : List Addr) (n : Nat) (L : List Loc) : Prop := ∀ y ∈ L, y.base ∈ wl ∨ n ≤ y.base
theorem Frw.nil {wl : List Addr} {n : Nat} : Frw wl n [] := fun _ q => nomatch q
theorem Frw.app {wl : List Addr} {n : Nat} {L L' : List Loc} (A : Frw wl n L) (B : Frw wl n L') : Frw wl n (L ++ L') := fun y q => (List.mem_append.mp q).elim (A y) (B y)
theorem Frw.snoc {wl : List Addr} {n : Nat} {L : List Loc} {a : Addr} {sl : Nat} (A : Frw wl n L) (q : a ∈ wl ∨ n ≤ a) : Frw wl n (L ++ [⟨a, sl⟩]) := A.app fun y hy => by cases List.mem_singleton.mp hy; exact q
theorem Frw.up {wl wl' : List Addr} {n n' : Nat} {L : List Loc} (A : Frw wl n L) (hn : n' ≤ n) (q : ∀ x ∈ wl, x ∈ wl' ∨ n' ≤ x) : Frw wl' n' L := fun y hy => (A y hy).elim (q _) (fun z => Or.inr (Nat.le_trans hn z))
theorem Frw.of_fr {wl : List Addr} {n n' : Nat} {L : List Loc} (A : Fr n L) (hn : n' ≤ n) : Frw wl n' L := fun y hy => Or.inr (Nat.le_trans hn (A y hy))
/-- where a walk stands: s its true start, vm0 the tables of its last interning step, h the heap -/
def Pos (p : Program) (l : Launch) (e : Env) (R : Room) (s : State) (m : MethodId) (args : Array Value) (below : List Frame) (meth : Method) (c : Code) (code : ByteArray) (Z : State) (EL : List (String × Nat)) (wl : List Addr) (hS : Heap) (own : String) (vm0 : Vm) (T : State) (locs : List Loc) (cells slots : Nat) (h : Heap) : Prop :=
  Stand p l e R (s.setVm vm0) m args below meth c T locs cells slots ∧ T.heap = h ∧ (∃ k0, s.Since vm0 k0 ∧ k0 ≤ h.size) ∧ Z.Warmed39 vm0 ∧ vm0.findClass own = some m.cls ∧ Frw wl hS.size locs ∧ s.heap = hS ∧ CHr Z EL s.vm hS vm0 h ∧ p.tables.exec = Jvm.exec ∧ c.code = code
section Heapy
variable {p : Program} {l : Launch} {e : Env} {R : Room} {s : State} {m : MethodId} {args : Array Value} {below : List Frame} {meth : Method} {c : Code} {code : ByteArray} {Z : State} {EL : List (String × Nat)} {wl : List Addr} {hS : Heap} {own : String} {vm0 : Vm} {T : State} {locs : List Loc} {cells slots : Nat} {h : Heap} {a0 : Array Value} {G : Outcome → State → Prop} {pc pc1 pc2 : Nat} {ls ls2 : Array Slot} {st : List Value}
theorem Pos.q (P : Pos p l e R s m args below meth c code Z EL wl hS own vm0 T locs cells slots h) : Q0 p T m c below code := ⟨P.1.here, P.2.2.2.2.2.2.2.2⟩
theorem Pos.hz (P : Pos p l e R s m args below meth c code Z EL wl hS own vm0 T locs cells slots h) : Z.Warmed39 (s.setVm vm0).vm := P.2.2.2.1
theorem Pos.al (P : Pos p l e R s m args below meth c code Z EL wl hS own vm0 T locs cells slots h) : Z.vm.Alike vm0 := P.2.2.2.1.alike
theorem Pos.heap (P : Pos p l e R s m args below meth c code Z EL wl hS own vm0 T locs cells slots h) : T.heap = h := P.2.1
theorem Pos.fr (P : Pos p l e R s m args below meth c code Z EL wl hS own vm0 T locs cells slots h) : Frw wl hS.size locs := P.2.2.2.2.2.1
theorem Pos.sz (P : Pos p l e R s m args below meth c code Z EL wl hS own vm0 T locs cells slots h) : hS.size ≤ h.size := P.2.2.2.2.2.2.2.1.2.1
theorem Pos.chv (P : Pos p l e R s m args below meth c code Z EL wl hS own vm0 T locs cells slots h) : CHv Z EL vm0 h := P.2.2.2.2.2.2.2.1.1
theorem Pos.chr (P : Pos p l e R s m args below meth c code Z EL wl hS own vm0 T locs cells slots h) : CHr Z EL s.vm hS vm0 h := P.2.2.2.2.2.2.2.1
theorem Pos.mono (P : Pos p l e R s m args below meth c code Z EL wl hS own vm0 T locs cells slots h) {cells' slots' : Nat} (hc : cells ≤ cells') (hs : slots ≤ slots') : Pos p l e R s m args below meth c code Z EL wl hS own vm0 T locs cells' slots' h := ⟨P.1.mono hc hs, P.2⟩
theorem Pos.keep (P : Pos p l e R s m args below meth c code Z EL wl hS own vm0 T locs cells slots h) : Keep hS h wl := by
  obtain ⟨X, rfl, -, -, -, N, rfl, -⟩ := P
  have hsame := X.same
  have key : ∀ (x : Addr) (c0 : Cell), s.heap[x]? = some c0 → x ∉ wl → T.heap[x]? = some c0 := fun x c0 q r => by
    obtain ⟨c', h1, h2, -, h4⟩ := hsame.2.2.2.2.2 x c0 q
    have hb := (Array.getElem?_eq_some_iff.mp q).1
    have hsl : c'.slots = c0.slots := Array.ext_getElem? fun i => h4 i fun hm => (N _ hm).elim r (fun z => absurd hb (Nat.not_lt.mpr z))
    have hcc : c' = c0 := by rw [h2, hsl]
    rw [← hcc]; exact h1
  exact ⟨hsame.2.1, key, fun x c0 q => by
    obtain ⟨c', h1, h2, h3, -⟩ := hsame.2.2.2.2.2 x c0 q
    exact ⟨c', h1, by rw [h2], by rw [h2], h3⟩⟩
theorem Pos.ext0 (P : Pos p l e R s m args below meth c code Z EL [] hS own vm0 T locs cells slots h) : Ext hS h := ⟨P.keep.1, fun a c q => P.keep.2.1 a c q nin0⟩
theorem Pos.extZ (P : Pos p l e R s m args below meth c code Z EL wl hS own vm0 T locs cells slots h) (EZ : Ext Z.heap hS) (q : ∀ x ∈ wl, Z.heap.size ≤ x) : Ext Z.heap h := ⟨Nat.le_trans EZ.1 P.keep.1, fun a c r => P.keep.2.1 a c (EZ.2 a c r) fun z => absurd (Array.getElem?_eq_some_iff.mp r).1 (Nat.not_lt.mpr (q a z))⟩
/-- a step that leaves heap and tables of interned texts as they are -/
theorem Pos.same (P : Pos p l e R s m args below meth c code Z EL wl hS own vm0 T locs cells slots h) {T' : State} (X' : Stand p l e R (s.setVm vm0) m args below meth c T' locs cells slots) (e' : T'.heap = h) : Pos p l e R s m args below meth c code Z EL wl hS own vm0 T' locs cells slots h := by
  obtain ⟨X, eT, hsi, hZ, hown, N, n1, C, hx, hby⟩ := P; exact ⟨X', e', hsi, hZ, hown, N, n1, C, hx, hby⟩
theorem Pos.grown (P : Pos p l e R s m args below meth c code Z EL wl hS own vm0 T locs cells slots h) {T' : State} {h' : Heap} {cells' slots' : Nat} (X' : Stand p l e R (s.setVm vm0) m args below meth c T' locs cells' slots') (e' : T'.heap = h') (E : Ext h h') : Pos p l e R s m args below meth c code Z EL wl hS own vm0 T' locs cells' slots' h' := by
  obtain ⟨X, eT, hsi, hZ, hown, N, n1, C, hx, hby⟩ := P; obtain ⟨k0, q1, q2⟩ := hsi; exact ⟨X', e', ⟨k0, q1, Nat.le_trans q2 E.1⟩, hZ, hown, N, n1, C.trans (CHr.ext E C.1), hx, hby⟩
theorem Pos.wrote (P : Pos p l e R s m args below meth c code Z EL wl hS own vm0 T locs cells slots h) {T' : State} {h' : Heap} {a : Addr} {sl : Nat} {v : Value} (X' : Stand p l e R (s.setVm vm0) m args below meth c T' (locs ++ [⟨a, sl⟩]) cells slots) (e' : T'.heap = h') (Wq : Wr h h' a sl v) (ga : a ∈ wl ∨ hS.size ≤ a) (S : Safe Z EL vm0 h a) : Pos p l e R s m args below meth c code Z EL wl hS own vm0 T' (locs ++ [⟨a, sl⟩]) cells slots h' := by
  obtain ⟨X, eT, hsi, hZ, hown, N, n1, C, hx, hby⟩ := P; obtain ⟨k0, q1, q2⟩ := hsi; have hs := Wq.size; exact ⟨X', e', ⟨k0, q1, by omega⟩, hZ, hown, N.snoc ga, n1, C.trans (CHr.wr Wq S C.1), hx, hby⟩
theorem Pos.came (P : Pos p l e R s m args below meth c code Z EL wl hS own vm0 T locs cells slots h) {T' : State} {L : List Loc} {cells' slots' : Nat} (X' : Stand p l e R (s.setVm vm0) m args below meth c T' (locs ++ L) cells' slots') (F : Frw wl hS.size L) (C' : CHr Z EL vm0 h vm0 T'.heap) : Pos p l e R s m args below meth c code Z EL wl hS own vm0 T' (locs ++ L) cells' slots' T'.heap := by
  obtain ⟨X, eT, hsi, hZ, hown, N, n1, C, hx, hby⟩ := P; obtain ⟨k0, q1, q2⟩ := hsi; have hs := C'.2.1; exact ⟨X', rfl, ⟨k0, q1, Nat.le_trans q2 hs⟩, hZ, hown, N.app F, n1, C.trans C', hx, hby⟩
theorem Pos.cameW (P : Pos p l e R s m args below meth c code Z EL wl hS own vm0 T locs cells slots h) {T' : State} {L : List Loc} {cells' slots' : Nat} (X' : Stand p l e R ((s.setVm vm0).setVm T'.vm) m args below meth c T' (locs ++ L) cells' slots') (h2 : (s.setVm vm0).Since T'.vm T'.heap.size) (g : h.size ≤ T'.heap.size) (F : Frw wl hS.size L) (C' : CHr Z EL vm0 h T'.vm T'.heap) : Pos p l e R s m args below meth c code Z EL wl hS own T'.vm T' (locs ++ L) cells' slots' T'.heap := by
  obtain ⟨X, eT, hsi, hZ, hown, N, n1, C, hx, hby⟩ := P; obtain ⟨k0, q1, q2⟩ := hsi
  obtain ⟨y1, y2, y3, y4⟩ := rebS q1 q2 X' h2 g hZ hown
  exact ⟨y1, rfl, ⟨_, y2, Nat.le_refl _⟩, y3, y4, N.app F, n1, C.trans C', hx, hby⟩
theorem Pos.getF (P : Pos p l e R s m args below meth c code Z EL wl hS own vm0 T locs cells slots h) {R0 O n d host : String} {index : Nat} {a : Addr} {v : Value} (w : (Cond.fieldLink own index R0 n d).before a0 Z = true ∨ (Cond.fieldLinkNest own index R0 n d host).before a0 Z = true) (via : Via Z R0 O n d) (F : Fld Z h a O n d v) (hd : decode code pc = .ok (.getfield index, 3)) (hp : pc + 3 = pc1) (K : ∀ (T' : State), Pos p l e R s m args below meth c code Z EL wl hS own vm0 T' locs cells slots h → Go p.tables e below G (T'.setTop (mkF m pc1 ls (v :: st)))) : Go p.tables e below G (T.setTop (mkF m pc ls (.ref a :: st))) := by
  subst hp
  obtain ⟨T', X', e', stp⟩ := RoadKit.getF P.1 P.q.2.1 P.hz P.2.2.2.2.1 w via P.heap F (g := mkF m pc ls (.ref a :: st)) rfl rfl (hb P.q.2.2 hd)
  exact Go.via stp (K T' (P.same X' e'))
theorem Pos.getS (P : Pos p l e R s m args below meth c code Z EL wl hS own vm0 T locs cells slots h) {R0 O n d : String} {index : Nat} {v : Value} (w : (Cond.fieldLink own index R0 n d).before a0 Z = true) (via : Via Z R0 O n d) (F : Sta Z h O n d v) (hd : decode code pc = .ok (.getstatic index, 3)) (hp : pc + 3 = pc1) (K : ∀ (T' : State), Pos p l e R s m args below meth c code Z EL wl hS own vm0 T' locs cells slots h → Go p.tables e below G (T'.setTop (mkF m pc1 ls (v :: st)))) : Go p.tables e below G (T.setTop (mkF m pc ls st)) := by
  subst hp
  obtain ⟨T', X', e', stp⟩ := RoadKit.getS (host := "") P.1 P.q.2.1 P.hz P.2.2.2.2.1 w via P.heap F (g := mkF m pc ls st) rfl (hb P.q.2.2 hd)
  exact Go.via stp (K T' (P.same X' e'))
theorem Pos.putF (P : Pos p l e R s m args below meth c code Z EL wl hS own vm0 T locs cells slots h) {R0 O n d host C : String} {index kk : Nat} {ty : FieldType} {a : Addr} {v old : Value} (w : (Cond.fieldLink own index R0 n d).before a0 Z = true ∨ (Cond.fieldLinkNest own index R0 n d host).before a0 Z = true) (via : Via Z R0 O n d) (F : Fld Z h a O n d old) (E : Exa Z h a C) (L : (Cond.lays C O n d).before a0 Z = true ∨ ((Cond.laysFinal C O n d).before a0 Z = true ∧ own = O ∧ meth.name = "<init>")) (wi : (Cond.instantiable C kk).before a0 Z = true) (hty : parseFieldDescriptor d = some ty) (hn : narrow ty v = v) (hf : fits ty v = true) (ga : a ∈ wl ∨ hS.size ≤ a) (S : Safe Z EL vm0 h a) (hd : decode code pc = .ok (.putfield index, 3)) (hp : pc + 3 = pc1) (K : ∀ (T' : State) (h' : Heap), Pos p l e R s m args below meth c code Z EL wl hS own vm0 T' (locs ++ [⟨a, RoadKit.slotOf Z O n d⟩]) cells slots h' → Wr h h' a (RoadKit.slotOf Z O n d) v → Go p.tables e below G (T'.setTop (mkF m pc1 ls st))) : Go p.tables e below G (T.setTop (mkF m pc ls (v :: .ref a :: st))) := by
  subst hp
  obtain ⟨T', h', X', e', W', stp⟩ := RoadKit.putF P.1 P.q.2.1 P.hz P.2.2.2.2.1 w via P.heap F E L wi hty hn hf (g := mkF m pc ls (v :: .ref a :: st)) rfl rfl (hb P.q.2.2 hd)
  exact Go.via stp (K T' h' (P.wrote X' e' W' ga S) W')
theorem Pos.newO (P : Pos p l e R s m args below meth c code Z EL wl hS own vm0 T locs cells slots h) {C : String} {index n : Nat} (w : (Cond.classLink own index C).before a0 Z = true) (wi : (Cond.instantiable C n).before a0 Z = true) (wz : (Cond.initialized C).before a0 Z = true) (hc : cells + 1 ≤ R.cells) (hl : slots + n ≤ R.slots) (hd : decode code pc = .ok (.new index, 3)) (hp : pc + 3 = pc1) (K : ∀ (T' : State) (h' : Heap) (x : Addr), x = h.size → Pos p l e R s m args below meth c code Z EL wl hS own vm0 T' locs (cells + 1) (slots + n) h' → Ext h h' → Exa Z h' x C → (∀ {O nm d : String} {ty : FieldType}, Laid Z a0 C O nm d → parseFieldDescriptor d = some ty → Fld Z h' x O nm d (defaultValue ty)) → (∃ cell : Cell, h'[x]? = some cell ∧ cell.vm = .none ∧ cell.monitor = {}) → Go p.tables e below G (T'.setTop (mkF m pc1 ls (.ref x :: st)))) : Go p.tables e below G (T.setTop (mkF m pc ls st)) := by
  subst hp
  obtain ⟨T', h', X', e', E', A', D', U', stp⟩ := RoadKit.newO P.1 P.q.2.1 P.hz P.2.2.2.2.1 w wi wz P.heap (g := mkF m pc ls st) rfl (hb P.q.2.2 hd) hc hl
  exact Go.via stp (K T' h' _ rfl (P.grown X' e' E') E' A' D' U')
theorem Pos.newP (P : Pos p l e R s m args below meth c code Z EL wl hS own vm0 T locs cells slots h) {aty : ArrayType} {n : Int32} {cap : Nat} (w : (Cond.arrayClass (newarray.typeOf aty)).before a0 Z = true) (hn : ¬ n < 0) (hcap : n.toNatClampNeg ≤ cap) (hb8 : cap * 8 ≤ 536870912) (hc : cells + 1 ≤ R.cells) (hl : slots + cap ≤ R.slots) (hd : decode code pc = .ok (.newarray aty, 2)) (hp : pc + 2 = pc1) (K : ∀ (T' : State) (h' : Heap) (x : Addr) (k : ClassId), x = h.size → Pos p l e R s m args below meth c code Z EL wl hS own vm0 T' locs (cells + 1) (slots + cap) h' → Ext h h' → Arv Z h' x k (newarray.typeOf aty) n (List.replicate n.toNatClampNeg (defaultValue (newarray.typeOf aty))) (defaultValue (newarray.typeOf aty)) → Go p.tables e below G (T'.setTop (mkF m pc1 ls (.ref x :: st)))) : Go p.tables e below G (T.setTop (mkF m pc ls (.int n :: st))) := by
  subst hp
  obtain ⟨T', h', k, X', e', E', A', stp⟩ := RoadKit.newP P.1 P.q.2.1 P.hz w P.heap (g := mkF m pc ls (.int n :: st)) rfl (hb P.q.2.2 hd) rfl hn hcap hb8 hc hl
  exact Go.via stp (K T' h' _ k rfl (P.grown X' e' E') E' ((Arv.new A' hn).pad (pad_rep [] _ _)))
theorem Pos.stC (P : Pos p l e R s m args below meth c code Z EL wl hS own vm0 T locs cells slots h) {a : Addr} {k : ClassId} {z j : Int32} {x : Int32} {vs : List Value} {d : Value} {i : Nat} (V : Arv Z h a k .char z vs d) (hj : ¬ j < 0) (hi : j.toNatClampNeg = i) (hl : i < vs.length) (hz : z.toNatClampNeg = vs.length) (ga : a ∈ wl ∨ hS.size ≤ a) (S : Safe Z EL vm0 h a) (hd : decode code pc = .ok (.castore, 1)) (hp : pc + 1 = pc1) (K : ∀ (T' : State) (h' : Heap), Pos p l e R s m args below meth c code Z EL wl hS own vm0 T' (locs ++ [⟨a, j.toNatClampNeg⟩]) cells slots h' → Wr h h' a j.toNatClampNeg (.int (nar .char x)) → Arv Z h' a k .char z (vs.set i (.int (nar .char x))) d → Go p.tables e below G (T'.setTop (mkF m pc1 ls st))) : Go p.tables e below G (T.setTop (mkF m pc ls (.int x :: .int j :: .ref a :: st))) := by
  subst hp
  obtain ⟨cl, A, q1, S1, q3, H1, G1⟩ := V
  obtain ⟨T', h', X', e', W', stp⟩ := RoadKit.stC P.1 P.q.2.1 P.hz P.heap A (j := j) (x := x) (fun y => y.elim hj (fun y => by rw [S1] at y; omega)) (g := mkF m pc ls (.int x :: .int j :: .ref a :: st)) rfl rfl (hb P.q.2.2 hd)
  exact Go.via stp (K T' h' (P.wrote X' e' W' ga S) W' (Arv.set A q1 S1 q3 H1 G1 (fits_nar_char x) W' i hi hl))
theorem Pos.stB (P : Pos p l e R s m args below meth c code Z EL wl hS own vm0 T locs cells slots h) {a : Addr} {k : ClassId} {z j : Int32} {x : Int32} {vs : List Value} {d : Value} {i : Nat} (V : Arv Z h a k .byte z vs d) (hj : ¬ j < 0) (hi : j.toNatClampNeg = i) (hl : i < vs.length) (hz : z.toNatClampNeg = vs.length) (ga : a ∈ wl ∨ hS.size ≤ a) (S : Safe Z EL vm0 h a) (hd : decode code pc = .ok (.bastore, 1)) (hp : pc + 1 = pc1) (K : ∀ (T' : State) (h' : Heap), Pos p l e R s m args below meth c code Z EL wl hS own vm0 T' (locs ++ [⟨a, j.toNatClampNeg⟩]) cells slots h' → Wr h h' a j.toNatClampNeg (.int (nar .byte x)) → Arv Z h' a k .byte z (vs.set i (.int (nar .byte x))) d → Go p.tables e below G (T'.setTop (mkF m pc1 ls st))) : Go p.tables e below G (T.setTop (mkF m pc ls (.int x :: .int j :: .ref a :: st))) := by
  subst hp
  obtain ⟨cl, A, q1, S1, q3, H1, G1⟩ := V
  obtain ⟨T', h', X', e', W', stp⟩ := RoadKit.stB P.1 P.q.2.1 P.hz P.heap A (j := j) (x := x) (fun y => y.elim hj (fun y => by rw [S1] at y; omega)) (g := mkF m pc ls (.int x :: .int j :: .ref a :: st)) rfl rfl (hb P.q.2.2 hd)
  exact Go.via stp (K T' h' (P.wrote X' e' W' ga S) W' (Arv.set A q1 S1 q3 H1 G1 (fits_nar_byte x) W' i hi hl))
theorem Pos.stZ (P : Pos p l e R s m args below meth c code Z EL wl hS own vm0 T locs cells slots h) {a : Addr} {k : ClassId} {z j : Int32} {x : Int32} {vs : List Value} {d : Value} {i : Nat} (V : Arv Z h a k .boolean z vs d) (hj : ¬ j < 0) (hi : j.toNatClampNeg = i) (hl : i < vs.length) (hz : z.toNatClampNeg = vs.length) (ga : a ∈ wl ∨ hS.size ≤ a) (S : Safe Z EL vm0 h a) (hd : decode code pc = .ok (.bastore, 1)) (hp : pc + 1 = pc1) (K : ∀ (T' : State) (h' : Heap), Pos p l e R s m args below meth c code Z EL wl hS own vm0 T' (locs ++ [⟨a, j.toNatClampNeg⟩]) cells slots h' → Wr h h' a j.toNatClampNeg (.int (nar .boolean x)) → Arv Z h' a k .boolean z (vs.set i (.int (nar .boolean x))) d → Go p.tables e below G (T'.setTop (mkF m pc1 ls st))) : Go p.tables e below G (T.setTop (mkF m pc ls (.int x :: .int j :: .ref a :: st))) := by
  subst hp
  obtain ⟨cl, A, q1, S1, q3, H1, G1⟩ := V
  obtain ⟨T', h', X', e', W', stp⟩ := RoadKit.stZ P.1 P.q.2.1 P.hz P.heap A (j := j) (x := x) (fun y => y.elim hj (fun y => by rw [S1] at y; omega)) (g := mkF m pc ls (.int x :: .int j :: .ref a :: st)) rfl rfl (hb P.q.2.2 hd)
  exact Go.via stp (K T' h' (P.wrote X' e' W' ga S) W' (Arv.set A q1 S1 q3 H1 G1 (fits_nar_bool x) W' i hi hl))
theorem Pos.stI (P : Pos p l e R s m args below meth c code Z EL wl hS own vm0 T locs cells slots h) {a : Addr} {k : ClassId} {z j : Int32} {x : Int32} {vs : List Value} {d : Value} {i : Nat} (V : Arv Z h a k .int z vs d) (hj : ¬ j < 0) (hi : j.toNatClampNeg = i) (hl : i < vs.length) (hz : z.toNatClampNeg = vs.length) (ga : a ∈ wl ∨ hS.size ≤ a) (S : Safe Z EL vm0 h a) (hd : decode code pc = .ok (.iastore, 1)) (hp : pc + 1 = pc1) (K : ∀ (T' : State) (h' : Heap), Pos p l e R s m args below meth c code Z EL wl hS own vm0 T' (locs ++ [⟨a, j.toNatClampNeg⟩]) cells slots h' → Wr h h' a j.toNatClampNeg (.int x) → Arv Z h' a k .int z (vs.set i (.int x)) d → Go p.tables e below G (T'.setTop (mkF m pc1 ls st))) : Go p.tables e below G (T.setTop (mkF m pc ls (.int x :: .int j :: .ref a :: st))) := by
  subst hp
  obtain ⟨cl, A, q1, S1, q3, H1, G1⟩ := V
  obtain ⟨T', h', X', e', W', stp⟩ := RoadKit.stI P.1 P.q.2.1 P.hz P.heap A (j := j) (x := x) (fun y => y.elim hj (fun y => by rw [S1] at y; omega)) (g := mkF m pc ls (.int x :: .int j :: .ref a :: st)) rfl rfl (hb P.q.2.2 hd)
  exact Go.via stp (K T' h' (P.wrote X' e' W' ga S) W' (Arv.set A q1 S1 q3 H1 G1 (rfl) W' i hi hl))
theorem Pos.stJ (P : Pos p l e R s m args below meth c code Z EL wl hS own vm0 T locs cells slots h) {a : Addr} {k : ClassId} {z j : Int32} {x : Int64} {vs : List Value} {d : Value} {i : Nat} (V : Arv Z h a k .long z vs d) (hj : ¬ j < 0) (hi : j.toNatClampNeg = i) (hl : i < vs.length) (hz : z.toNatClampNeg = vs.length) (ga : a ∈ wl ∨ hS.size ≤ a) (S : Safe Z EL vm0 h a) (hd : decode code pc = .ok (.lastore, 1)) (hp : pc + 1 = pc1) (K : ∀ (T' : State) (h' : Heap), Pos p l e R s m args below meth c code Z EL wl hS own vm0 T' (locs ++ [⟨a, j.toNatClampNeg⟩]) cells slots h' → Wr h h' a j.toNatClampNeg (.long x) → Arv Z h' a k .long z (vs.set i (.long x)) d → Go p.tables e below G (T'.setTop (mkF m pc1 ls st))) : Go p.tables e below G (T.setTop (mkF m pc ls (.long x :: .int j :: .ref a :: st))) := by
  subst hp
  obtain ⟨cl, A, q1, S1, q3, H1, G1⟩ := V
  obtain ⟨T', h', X', e', W', stp⟩ := RoadKit.stJ P.1 P.q.2.1 P.hz P.heap A (j := j) (x := x) (fun y => y.elim hj (fun y => by rw [S1] at y; omega)) (g := mkF m pc ls (.long x :: .int j :: .ref a :: st)) rfl rfl (hb P.q.2.2 hd)
  exact Go.via stp (K T' h' (P.wrote X' e' W' ga S) W' (Arv.set A q1 S1 q3 H1 G1 (rfl) W' i hi hl))
theorem Pos.stD (P : Pos p l e R s m args below meth c code Z EL wl hS own vm0 T locs cells slots h) {a : Addr} {k : ClassId} {z j : Int32} {x : UInt64} {vs : List Value} {d : Value} {i : Nat} (V : Arv Z h a k .double z vs d) (hj : ¬ j < 0) (hi : j.toNatClampNeg = i) (hl : i < vs.length) (hz : z.toNatClampNeg = vs.length) (ga : a ∈ wl ∨ hS.size ≤ a) (S : Safe Z EL vm0 h a) (hd : decode code pc = .ok (.dastore, 1)) (hp : pc + 1 = pc1) (K : ∀ (T' : State) (h' : Heap), Pos p l e R s m args below meth c code Z EL wl hS own vm0 T' (locs ++ [⟨a, j.toNatClampNeg⟩]) cells slots h' → Wr h h' a j.toNatClampNeg (.double x) → Arv Z h' a k .double z (vs.set i (.double x)) d → Go p.tables e below G (T'.setTop (mkF m pc1 ls st))) : Go p.tables e below G (T.setTop (mkF m pc ls (.double x :: .int j :: .ref a :: st))) := by
  subst hp
  obtain ⟨cl, A, q1, S1, q3, H1, G1⟩ := V
  obtain ⟨T', h', X', e', W', stp⟩ := RoadKit.stD P.1 P.q.2.1 P.hz P.heap A (j := j) (x := x) (fun y => y.elim hj (fun y => by rw [S1] at y; omega)) (g := mkF m pc ls (.double x :: .int j :: .ref a :: st)) rfl rfl (hb P.q.2.2 hd)
  exact Go.via stp (K T' h' (P.wrote X' e' W' ga S) W' (Arv.set A q1 S1 q3 H1 G1 (rfl) W' i hi hl))
theorem Pos.stF (P : Pos p l e R s m args below meth c code Z EL wl hS own vm0 T locs cells slots h) {a : Addr} {k : ClassId} {z j : Int32} {x : UInt32} {vs : List Value} {d : Value} {i : Nat} (V : Arv Z h a k .float z vs d) (hj : ¬ j < 0) (hi : j.toNatClampNeg = i) (hl : i < vs.length) (hz : z.toNatClampNeg = vs.length) (ga : a ∈ wl ∨ hS.size ≤ a) (S : Safe Z EL vm0 h a) (hd : decode code pc = .ok (.fastore, 1)) (hp : pc + 1 = pc1) (K : ∀ (T' : State) (h' : Heap), Pos p l e R s m args below meth c code Z EL wl hS own vm0 T' (locs ++ [⟨a, j.toNatClampNeg⟩]) cells slots h' → Wr h h' a j.toNatClampNeg (.float x) → Arv Z h' a k .float z (vs.set i (.float x)) d → Go p.tables e below G (T'.setTop (mkF m pc1 ls st))) : Go p.tables e below G (T.setTop (mkF m pc ls (.float x :: .int j :: .ref a :: st))) := by
  subst hp
  obtain ⟨cl, A, q1, S1, q3, H1, G1⟩ := V
  obtain ⟨T', h', X', e', W', stp⟩ := RoadKit.stF P.1 P.q.2.1 P.hz P.heap A (j := j) (x := x) (fun y => y.elim hj (fun y => by rw [S1] at y; omega)) (g := mkF m pc ls (.float x :: .int j :: .ref a :: st)) rfl rfl (hb P.q.2.2 hd)
  exact Go.via stp (K T' h' (P.wrote X' e' W' ga S) W' (Arv.set A q1 S1 q3 H1 G1 (rfl) W' i hi hl))
theorem Pos.ldC (P : Pos p l e R s m args below meth c code Z EL wl hS own vm0 T locs cells slots h) {a : Addr} {k : ClassId} {z j : Int32} {vs : List Value} {d v : Value} (V : Arv Z h a k .char z vs d) (hj : ¬ j < 0) (hz : j.toNatClampNeg < z.toNatClampNeg) (hv : vs.getD j.toNatClampNeg d = v) (hd : decode code pc = .ok (.caload, 1)) (hp : pc + 1 = pc1) (K : Go p.tables e below G (T.setTop (mkF m pc1 ls (v :: st)))) : Go p.tables e below G (T.setTop (mkF m pc ls (.int j :: .ref a :: st))) := by
  subst hp
  obtain ⟨cl, A, q1, S1, q3, H1, G1⟩ := V
  exact Go.via (fun t k => P.1.caload P.q.2.1 (j := j) (v := v) (by rw [P.heap]; exact A.1) (State.isArrayOf_alike P.hz.alike A.2.1) A.2.2 (fun y => y.elim hj (fun y => by rw [S1] at y; omega)) (by rw [← hv]; exact H1 _ (by rw [S1]; exact hz)) (g := mkF m pc ls (.int j :: .ref a :: st)) rfl rfl (hb P.q.2.2 hd) t k) K
theorem Pos.ldB (P : Pos p l e R s m args below meth c code Z EL wl hS own vm0 T locs cells slots h) {a : Addr} {k : ClassId} {z j : Int32} {vs : List Value} {d v : Value} (V : Arv Z h a k .byte z vs d) (hj : ¬ j < 0) (hz : j.toNatClampNeg < z.toNatClampNeg) (hv : vs.getD j.toNatClampNeg d = v) (hd : decode code pc = .ok (.baload, 1)) (hp : pc + 1 = pc1) (K : Go p.tables e below G (T.setTop (mkF m pc1 ls (v :: st)))) : Go p.tables e below G (T.setTop (mkF m pc ls (.int j :: .ref a :: st))) := by
  subst hp
  obtain ⟨cl, A, q1, S1, q3, H1, G1⟩ := V
  exact Go.via (fun t k => P.1.baloadBytes P.q.2.1 (j := j) (v := v) (by rw [P.heap]; exact A.1) (State.isArrayOf_alike P.hz.alike A.2.1) A.2.2 (fun y => y.elim hj (fun y => by rw [S1] at y; omega)) (by rw [← hv]; exact H1 _ (by rw [S1]; exact hz)) (g := mkF m pc ls (.int j :: .ref a :: st)) rfl rfl (hb P.q.2.2 hd) t k) K
theorem Pos.ldZ (P : Pos p l e R s m args below meth c code Z EL wl hS own vm0 T locs cells slots h) {a : Addr} {k : ClassId} {z j : Int32} {vs : List Value} {d v : Value} (V : Arv Z h a k .boolean z vs d) (hj : ¬ j < 0) (hz : j.toNatClampNeg < z.toNatClampNeg) (hv : vs.getD j.toNatClampNeg d = v) (hd : decode code pc = .ok (.baload, 1)) (hp : pc + 1 = pc1) (K : Go p.tables e below G (T.setTop (mkF m pc1 ls (v :: st)))) : Go p.tables e below G (T.setTop (mkF m pc ls (.int j :: .ref a :: st))) := by
  subst hp
  obtain ⟨cl, A, q1, S1, q3, H1, G1⟩ := V
  exact Go.via (fun t k => P.1.baloadBooleans P.q.2.1 (j := j) (v := v) (by rw [P.heap]; exact A.1) (State.isArrayOf_alike P.hz.alike A.2.1) A.2.2 (fun y => y.elim hj (fun y => by rw [S1] at y; omega)) (by rw [← hv]; exact H1 _ (by rw [S1]; exact hz)) (g := mkF m pc ls (.int j :: .ref a :: st)) rfl rfl (hb P.q.2.2 hd) t k) K
theorem Pos.ldI (P : Pos p l e R s m args below meth c code Z EL wl hS own vm0 T locs cells slots h) {a : Addr} {k : ClassId} {z j : Int32} {vs : List Value} {d v : Value} (V : Arv Z h a k .int z vs d) (hj : ¬ j < 0) (hz : j.toNatClampNeg < z.toNatClampNeg) (hv : vs.getD j.toNatClampNeg d = v) (hd : decode code pc = .ok (.iaload, 1)) (hp : pc + 1 = pc1) (K : Go p.tables e below G (T.setTop (mkF m pc1 ls (v :: st)))) : Go p.tables e below G (T.setTop (mkF m pc ls (.int j :: .ref a :: st))) := by
  subst hp
  obtain ⟨cl, A, q1, S1, q3, H1, G1⟩ := V
  exact Go.via (fun t k => P.1.iaload P.q.2.1 (j := j) (v := v) (by rw [P.heap]; exact A.1) (State.isArrayOf_alike P.hz.alike A.2.1) A.2.2 (fun y => y.elim hj (fun y => by rw [S1] at y; omega)) (by rw [← hv]; exact H1 _ (by rw [S1]; exact hz)) (g := mkF m pc ls (.int j :: .ref a :: st)) rfl rfl (hb P.q.2.2 hd) t k) K
theorem Pos.ldJ (P : Pos p l e R s m args below meth c code Z EL wl hS own vm0 T locs cells slots h) {a : Addr} {k : ClassId} {z j : Int32} {vs : List Value} {d v : Value} (V : Arv Z h a k .long z vs d) (hj : ¬ j < 0) (hz : j.toNatClampNeg < z.toNatClampNeg) (hv : vs.getD j.toNatClampNeg d = v) (hd : decode code pc = .ok (.laload, 1)) (hp : pc + 1 = pc1) (K : Go p.tables e below G (T.setTop (mkF m pc1 ls (v :: st)))) : Go p.tables e below G (T.setTop (mkF m pc ls (.int j :: .ref a :: st))) := by
  subst hp
  obtain ⟨cl, A, q1, S1, q3, H1, G1⟩ := V
  exact Go.via (fun t k => P.1.laload P.q.2.1 (j := j) (v := v) (by rw [P.heap]; exact A.1) (State.isArrayOf_alike P.hz.alike A.2.1) A.2.2 (fun y => y.elim hj (fun y => by rw [S1] at y; omega)) (by rw [← hv]; exact H1 _ (by rw [S1]; exact hz)) (g := mkF m pc ls (.int j :: .ref a :: st)) rfl rfl (hb P.q.2.2 hd) t k) K
theorem Pos.ldD (P : Pos p l e R s m args below meth c code Z EL wl hS own vm0 T locs cells slots h) {a : Addr} {k : ClassId} {z j : Int32} {vs : List Value} {d v : Value} (V : Arv Z h a k .double z vs d) (hj : ¬ j < 0) (hz : j.toNatClampNeg < z.toNatClampNeg) (hv : vs.getD j.toNatClampNeg d = v) (hd : decode code pc = .ok (.daload, 1)) (hp : pc + 1 = pc1) (K : Go p.tables e below G (T.setTop (mkF m pc1 ls (v :: st)))) : Go p.tables e below G (T.setTop (mkF m pc ls (.int j :: .ref a :: st))) := by
  subst hp
  obtain ⟨cl, A, q1, S1, q3, H1, G1⟩ := V
  exact Go.via (fun t k => P.1.daload P.q.2.1 (j := j) (v := v) (by rw [P.heap]; exact A.1) (State.isArrayOf_alike P.hz.alike A.2.1) A.2.2 (fun y => y.elim hj (fun y => by rw [S1] at y; omega)) (by rw [← hv]; exact H1 _ (by rw [S1]; exact hz)) (g := mkF m pc ls (.int j :: .ref a :: st)) rfl rfl (hb P.q.2.2 hd) t k) K
theorem Pos.ldF (P : Pos p l e R s m args below meth c code Z EL wl hS own vm0 T locs cells slots h) {a : Addr} {k : ClassId} {z j : Int32} {vs : List Value} {d v : Value} (V : Arv Z h a k .float z vs d) (hj : ¬ j < 0) (hz : j.toNatClampNeg < z.toNatClampNeg) (hv : vs.getD j.toNatClampNeg d = v) (hd : decode code pc = .ok (.faload, 1)) (hp : pc + 1 = pc1) (K : Go p.tables e below G (T.setTop (mkF m pc1 ls (v :: st)))) : Go p.tables e below G (T.setTop (mkF m pc ls (.int j :: .ref a :: st))) := by
  subst hp
  obtain ⟨cl, A, q1, S1, q3, H1, G1⟩ := V
  exact Go.via (fun t k => P.1.faload P.q.2.1 (j := j) (v := v) (by rw [P.heap]; exact A.1) (State.isArrayOf_alike P.hz.alike A.2.1) A.2.2 (fun y => y.elim hj (fun y => by rw [S1] at y; omega)) (by rw [← hv]; exact H1 _ (by rw [S1]; exact hz)) (g := mkF m pc ls (.int j :: .ref a :: st)) rfl rfl (hb P.q.2.2 hd) t k) K
theorem Pos.ldR (P : Pos p l e R s m args below meth c code Z EL wl hS own vm0 T locs cells slots h) {a : Addr} {k : ClassId} {ty : FieldType} {z j : Int32} {vs : List Value} {d v : Value} (V : Arv Z h a k ty z vs d) (hty : ty.isReference = true) (hj : ¬ j < 0) (hz : j.toNatClampNeg < z.toNatClampNeg) (hv : vs.getD j.toNatClampNeg d = v) (hd : decode code pc = .ok (.aaload, 1)) (hp : pc + 1 = pc1) (K : Go p.tables e below G (T.setTop (mkF m pc1 ls (v :: st)))) : Go p.tables e below G (T.setTop (mkF m pc ls (.int j :: .ref a :: st))) := by
  subst hp
  obtain ⟨cl, A, q1, S1, q3, H1, G1⟩ := V
  exact Go.via (fun t k => P.1.aaload P.q.2.1 (j := j) (v := v) (by rw [P.heap]; exact A.1) (State.isArrayOf_alike P.hz.alike A.2.1) hty A.2.2 (fun y => y.elim hj (fun y => by rw [S1] at y; omega)) (by rw [← hv]; exact H1 _ (by rw [S1]; exact hz)) (g := mkF m pc ls (.int j :: .ref a :: st)) rfl rfl (hb P.q.2.2 hd) t k) K
theorem Pos.cloneR (P : Pos p l e R s m args below meth c code Z EL wl hS own vm0 T locs cells slots h) {ad : String} {index : Nat} {a : Addr} {k : ClassId} {ty : FieldType} {z : Int32} {vs : List Value} {d : Value} {W cap : Nat} (w1 : (Cond.methodLink own index ⟨ad, "clone", "()Ljava/lang/Object;"⟩).before a0 Z = true) (w2 : (Cond.sameMethod ad "java/lang/Object" "clone" "()Ljava/lang/Object;").before a0 Z = true) (w3 : (Cond.native ⟨"java/lang/Object", "clone", "()Ljava/lang/Object;"⟩).before a0 Z = true) (w4 : (Cond.instanceMethod ⟨"java/lang/Object", "clone", "()Ljava/lang/Object;"⟩).before a0 Z = true) (w5 : (Cond.selects ad ⟨ad, "clone", "()Ljava/lang/Object;"⟩ ⟨"java/lang/Object", "clone", "()Ljava/lang/Object;"⟩).before a0 Z = true) (w6 : (Cond.castable ad "java/lang/Cloneable").before a0 Z = true) (V : Arv Z h a k ty z vs d) (E : Exa Z h a ad) (hsize : ls.size = c.maxLocals) (hf : 1 ≤ R.frames) (hW : (st.map fun v => v.category).sum ≤ W) (hl : W + 14 ≤ R.locals) (hcap : z.toNatClampNeg ≤ cap) (hc : cells + 1 ≤ R.cells) (hsl : slots + cap ≤ R.slots) (hd : decode code pc = .ok (.invokevirtual index, 3)) (hp : pc + 3 = pc1) (K : ∀ (T' : State) (h' : Heap) (x : Addr), x = h.size → Pos p l e R s m args below meth c code Z EL wl hS own vm0 T' locs (cells + 1) (slots + cap) h' → Ext h h' → Arv Z h' x k ty z vs d → Exa Z h' x ad → Go p.tables e below G (T'.setTop (mkF m pc1 ls (.ref x :: st)))) : Go p.tables e below G (T.setTop (mkF m pc ls (.ref a :: st))) := by
  subst hp
  obtain ⟨T', h', X', e', E', A', Ex', stp⟩ := RoadKit.cloneH P.1 P.q.2.1 P.hz P.2.2.2.2.1 w1 w2 w3 w4 w5 w6 P.heap V.arh E (g := mkF m pc ls (.ref a :: st)) rfl hsize rfl (hb P.q.2.2 hd) hf (W := W) (by show 2 * 0 + _ ≤ _; omega) hl hcap hc hsl
  exact Go.via stp (K T' h' _ rfl (P.grown X' e' E') E' A' Ex')
theorem Pos.len (P : Pos p l e R s m args below meth c code Z EL wl hS own vm0 T locs cells slots h) {a : Addr} {k : ClassId} {ty : FieldType} {z : Int32} {vs : List Value} {d : Value} (V : Arv Z h a k ty z vs d) (hd : decode code pc = .ok (.arraylength, 1)) (hp : pc + 1 = pc1) (K : Go p.tables e below G (T.setTop (mkF m pc1 ls (.int z :: st)))) : Go p.tables e below G (T.setTop (mkF m pc ls (.ref a :: st))) := by
  subst hp
  obtain ⟨cl, A, q1, S1, q3, H1, G1⟩ := V
  rw [← len_of S1 q3] at K
  exact Go.via (fun t k => P.1.arraylength P.q.2.1 (cell := cl) (by rw [P.heap]; exact A.1) (State.isArrayOf_alike P.hz.alike A.2.1) (g := mkF m pc ls (.ref a :: st)) rfl (rest := st) rfl (hb P.q.2.2 hd) t k) K
theorem Pos.initO (P : Pos p l e R s m args below meth c code Z EL wl hS own vm0 T locs cells slots h) {idx : Nat} {a : Addr} {W : Nat} (w1 : (Cond.methodLink own idx Lib.objectInit).before a0 Z = true) (w2 : (Cond.instanceMethod Lib.objectInit).before a0 Z = true) (w3 : (Cond.code Lib.objectInit ⟨#[0xb1]⟩ 1 none).before a0 Z = true) (hsize : ls.size = c.maxLocals) (hf : 1 ≤ R.frames) (hW : (st.map fun v => v.category).sum ≤ W) (hl : W + 12 ≤ R.locals) (hd : decode code pc = .ok (.invokespecial idx, 3)) (hp : pc + 3 = pc1) (K : ∀ (T' : State), Pos p l e R s m args below meth c code Z EL wl hS own vm0 T' locs cells slots h → Go p.tables e below G (T'.setTop (mkF m pc1 ls st))) : Go p.tables e below G (T.setTop (mkF m pc ls (.ref a :: st))) := by
  subst hp
  obtain ⟨T', X', e', stp⟩ := RoadKit.initO P.1 P.q.2.1 P.hz P.2.2.2.2.1 w1 w2 w3 P.heap (g := mkF m pc ls (.ref a :: st)) rfl hsize rfl (hb P.q.2.2 hd) hf (W := W) (by show 2 * 0 + _ ≤ _; omega) hl
  exact Go.via stp (K T' (P.same X' e'))
theorem Pos.castY (P : Pos p l e R s m args below meth c code Z EL wl hS own vm0 T locs cells slots h) {C : String} {index : Nat} {a : Addr} (w : (Cond.classLink own index C).before a0 Z = true) (F : Ins Z h a C true) (hd : decode code pc = .ok (.checkcast index, 3)) (hp : pc + 3 = pc1) (K : ∀ (T' : State), Pos p l e R s m args below meth c code Z EL wl hS own vm0 T' locs cells slots h → Go p.tables e below G (T'.setTop (mkF m pc1 ls (.ref a :: st)))) : Go p.tables e below G (T.setTop (mkF m pc ls (.ref a :: st))) := by
  subst hp
  obtain ⟨T', X', e', stp⟩ := RoadKit.castY P.1 P.q.2.1 P.hz P.2.2.2.2.1 w P.heap F (g := mkF m pc ls (.ref a :: st)) rfl rfl (hb P.q.2.2 hd)
  exact Go.via stp (K T' (P.same X' e'))
theorem Pos.instY (P : Pos p l e R s m args below meth c code Z EL wl hS own vm0 T locs cells slots h) {C : String} {index : Nat} {a : Addr} (w : (Cond.classLink own index C).before a0 Z = true) (F : Ins Z h a C true) (hd : decode code pc = .ok (.instanceof index, 3)) (hp : pc + 3 = pc1) (K : ∀ (T' : State), Pos p l e R s m args below meth c code Z EL wl hS own vm0 T' locs cells slots h → Go p.tables e below G (T'.setTop (mkF m pc1 ls (.int 1 :: st)))) : Go p.tables e below G (T.setTop (mkF m pc ls (.ref a :: st))) := by
  subst hp
  obtain ⟨T', X', e', stp⟩ := RoadKit.instY P.1 P.q.2.1 P.hz P.2.2.2.2.1 w P.heap F (g := mkF m pc ls (.ref a :: st)) rfl rfl (hb P.q.2.2 hd)
  exact Go.via stp (K T' (P.same X' e'))
theorem Pos.instNull (P : Pos p l e R s m args below meth c code Z EL wl hS own vm0 T locs cells slots h) {index : Nat} (hd : decode code pc = .ok (.instanceof index, 3)) (hp : pc + 3 = pc1) (K : Go p.tables e below G (T.setTop (mkF m pc1 ls (.int 0 :: st)))) : Go p.tables e below G (T.setTop (mkF m pc ls (.null :: st))) := by
  subst hp; exact Go.via (P.1.instanceofNull P.q.2.1 (g := mkF m pc ls (.null :: st)) rfl rfl (hb P.q.2.2 hd)) K
theorem Pos.castNull (P : Pos p l e R s m args below meth c code Z EL wl hS own vm0 T locs cells slots h) {index : Nat} (hd : decode code pc = .ok (.checkcast index, 3)) (hp : pc + 3 = pc1) (K : Go p.tables e below G (T.setTop (mkF m pc1 ls (.null :: st)))) : Go p.tables e below G (T.setTop (mkF m pc ls (.null :: st))) := by
  subst hp; exact Go.via (P.1.checkcastNull P.q.2.1 (g := mkF m pc ls (.null :: st)) rfl rfl (hb P.q.2.2 hd)) K
theorem Pos.instNo (P : Pos p l e R s m args below meth c code Z EL wl hS own vm0 T locs cells slots h) {C D : String} {index : Nat} {a : Addr} (w : (Cond.classLink own index C).before a0 Z = true) (E : Exa Z h a D) (F : ∃ c t, Z.vm.findClass D = some c ∧ Z.vm.findClass C = some t ∧ Z.vm.assignable c t = false) (hd : decode code pc = .ok (.instanceof index, 3)) (hp : pc + 3 = pc1) (K : ∀ (T' : State), Pos p l e R s m args below meth c code Z EL wl hS own vm0 T' locs cells slots h → Go p.tables e below G (T'.setTop (mkF m pc1 ls (.int 0 :: st)))) : Go p.tables e below G (T.setTop (mkF m pc ls (.ref a :: st))) := by
  subst hp
  obtain ⟨T', X', e', stp⟩ := RoadKit.instNo P.1 P.q.2.1 P.hz P.2.2.2.2.1 w P.heap E F (g := mkF m pc ls (.ref a :: st)) rfl rfl (hb P.q.2.2 hd)
  exact Go.via stp (K T' (P.same X' e'))
theorem Pos.exc1 (P : Pos p l e R s m args below meth c code Z EL wl hS own vm0 T locs cells slots h) (htr : l.stackTraces = true) {rc : String} {links : List Jvm.Free.Exc.Link} {ic n : Nat} (hok : Jvm.Free.Exc.linksOk 1 links = true) (w1 : (Cond.methodLink own ic (Jvm.Free.Exc.ctor 1 (Jvm.Free.Exc.headName links))).before a0 Z = true) (w2 : (Cond.instanceMethod (Jvm.Free.Exc.ctor 1 (Jvm.Free.Exc.headName links))).before a0 Z = true) (wT : (Jvm.Free.Exc.chainTab 1 rc links).before a0 Z = true) (wi : (Cond.instantiable rc n).before a0 Z = true) (r : ∀ d ∈ twoRefs, d.before a0 Z = true)
    (hT0 : ThS Z hS) (hT : ThS Z h) (hTK : vm0.MethodsKnown) (hBelow : vm0.FramesKnown below) {a : Addr} (E : Exa Z h a rc) (N : Unt h a) (B : Fld Z h a Bundle.tN "backtrace" Jvm.Free.Exc.obD .null) (B2 : Fld Z h a Bundle.tN "detailMessage" Jvm.Free.Exc.msgD .null) {msg : Value} (hmsg : msg.isRef = true) (ga : a ∈ wl ∨ hS.size ≤ a) (S : Safe Z EL vm0 h a)
    (hsize : ls.size = c.maxLocals) {W : Nat} (hW : (st.map fun v => v.category).sum ≤ W) (hf : 4 + links.length ≤ R.frames) (hlo : W + (56 + 14 * links.length) ≤ R.locals) (hc : cells + 1 ≤ R.cells) (hsl : slots + 2752 ≤ R.slots) (hd : decode code pc = .ok (.invokespecial ic, 3)) (hp : pc + 3 = pc1)
    (K : ∀ (T' : State) (h' : Heap), Pos p l e R s m args below meth c code Z EL wl hS own vm0 T' (locs ++ sixLocs Z a) (cells + 1) (slots + 2752) h' → Kp Z h h' a → Exa Z h' a rc → Unt h' a → Fld Z h' a Bundle.tN "detailMessage" Jvm.Free.Exc.msgD msg → ThS Z h' → Go p.tables e below G (T'.setTop (mkF m pc1 ls st))) : Go p.tables e below G (T.setTop (mkF m pc ls (msg :: .ref a :: st))) := by
  subst hp
  obtain ⟨T', h', X', e', K', E', N', M', -, hT', stp⟩ := RoadKit.excL1 P.1 P.q.2.1 htr P.hz P.2.2.2.2.1 hok w1 w2 wT wi r (by have q := P.2.2.2.2.2.2.1; show ThS Z s.heap; rw [q]; exact hT0) hT hTK hBelow P.heap E N B B2 hmsg (g := mkF m pc ls (msg :: .ref a :: st)) rfl hsize rfl (hb P.q.2.2 hd) hf (by show 2 * 0 + _ + _ ≤ _; omega) hc hsl
  refine Go.via stp (K T' h' ?_ K' E' N' M' hT')
  have C' : CHr Z EL vm0 h vm0 h' := CHr.keep (keep_of_kp K') (sfS S sf0) P.chv
  obtain ⟨X, eT, hsi, hZ, hown, N, n1, C, hx, hby⟩ := P; obtain ⟨k0, q1, q2⟩ := hsi
  exact ⟨X', e', ⟨k0, q1, Nat.le_trans q2 C'.2.1⟩, hZ, hown, N.app (fun y hy => by obtain ⟨nd, -, rfl⟩ := List.mem_map.mp hy; exact ga), n1, C.trans C', hx, hby⟩
theorem Pos.alS (P : Pos p l e R s m args below meth c code Z EL wl hS own vm0 T locs cells slots h) : s.vm.Alike vm0 := by obtain ⟨k0, q1, q2⟩ := P.2.2.1; exact q1.1.alike
theorem Pos.ldcI (P : Pos p l e R s m args below meth c code Z EL wl hS own vm0 T locs cells slots h) {index : Nat} {v : Int32} (w : (Cond.constant own index v).before a0 Z = true) (hd : decode code pc = .ok (.ldc index, 2)) (hp : pc + 2 = pc1) (K : Go p.tables e below G (T.setTop (mkF m pc1 ls (.int v :: st)))) : Go p.tables e below G (T.setTop (mkF m pc ls st)) := by
  subst hp; exact Go.via (P.1.ldcInt P.q.2.1 P.2.2.2.2.1 (mvT P.hz w) (g := mkF m pc ls st) rfl (hb P.q.2.2 hd)) K
theorem Pos.ldc2J (P : Pos p l e R s m args below meth c code Z EL wl hS own vm0 T locs cells slots h) {index : Nat} {v : Int64} (w : (Cond.constantLong own index v).before a0 Z = true) (hd : decode code pc = .ok (.ldc2_w index, 3)) (hp : pc + 3 = pc1) (K : Go p.tables e below G (T.setTop (mkF m pc1 ls (.long v :: st)))) : Go p.tables e below G (T.setTop (mkF m pc ls st)) := by
  subst hp; exact Go.via (P.1.ldc2Long P.q.2.1 P.2.2.2.2.1 (mvT P.hz w) (g := mkF m pc ls st) rfl (hb P.q.2.2 hd)) K
theorem Pos.ldcF (P : Pos p l e R s m args below meth c code Z EL wl hS own vm0 T locs cells slots h) {index : Nat} {v : UInt32} (w : (Cond.constantFloat own index v).before a0 Z = true) (hd : decode code pc = .ok (.ldc index, 2)) (hp : pc + 2 = pc1) (K : Go p.tables e below G (T.setTop (mkF m pc1 ls (.float v :: st)))) : Go p.tables e below G (T.setTop (mkF m pc ls st)) := by
  subst hp; exact Go.via (P.1.ldcFloatC P.q.2.1 P.2.2.2.2.1 (mvT P.hz w) (g := mkF m pc ls st) rfl (hb P.q.2.2 hd)) K
theorem Pos.ldc2D (P : Pos p l e R s m args below meth c code Z EL wl hS own vm0 T locs cells slots h) {index : Nat} {v : UInt64} (w : (Cond.constantDouble own index v).before a0 Z = true) (hd : decode code pc = .ok (.ldc2_w index, 3)) (hp : pc + 3 = pc1) (K : Go p.tables e below G (T.setTop (mkF m pc1 ls (.double v :: st)))) : Go p.tables e below G (T.setTop (mkF m pc ls st)) := by
  subst hp; exact Go.via (P.1.ldc2DoubleC P.q.2.1 P.2.2.2.2.1 (mvT P.hz w) (g := mkF m pc ls st) rfl (hb P.q.2.2 hd)) K
theorem Pos.ldcO (P : Pos p l e R s m args below meth c code Z EL wl hS own vm0 T locs cells slots h) {index : Nat} {text : String} {n : Nat} (w : (Cond.stringLink own index text).before a0 Z = true) (wS : ∀ a ∈ Bundle.stringAtoms, a.before a0 Z = true) (hEL : EW Z a0 EL) (hn : 4 * text.toList.length ≤ n) (hbig : n ≤ 536870912) (hc : cells + 2 ≤ R.cells) (hl : slots + (n + 4) ≤ R.slots) (hd : decode code pc = .ok (.ldc index, 2)) (hp : pc + 2 = pc1)
    (K : ∀ (a : Addr) (T' : State) (h' : Heap), Pos p l e R s m args below meth c code Z EL wl hS own T'.vm T' locs (cells + 2) (slots + (n + 4)) h' → Ext h h' → CHr Z EL vm0 h T'.vm h' → Lit (s.setVm T'.vm) own index a → Go p.tables e below G (T'.setTop (mkF m pc1 ls (.ref a :: st)))) : Go p.tables e below G (T.setTop (mkF m pc ls st)) := by
  subst hp
  obtain ⟨X, eT, hsi, hZ, hown, N, n1, C, hx, hby⟩ := P
  obtain ⟨k0, q1, q2⟩ := hsi
  obtain ⟨a, T', h', k1, X', e', E', hS2, hk2, hW, hf, hC, hL, stp⟩ := RoadKit.ldcOH X hx hZ hown w wS eT q1 q2 hEL C.1 (g := mkF m pc ls st) rfl (hb hby hd) hn hbig hc hl
  exact Go.via stp (K a T' h' ⟨X', e', ⟨k1, hS2, hk2⟩, hW, hf, N, n1, C.trans hC, hx, hby⟩ E' hC hL)
theorem Pos.ldcR (P : Pos p l e R s m args below meth c code Z EL wl hS own vm0 T locs cells slots h) {index : Nat} {text : String} {n : Nat} (w : (Cond.stringLink own index text).before a0 Z = true) (wS : ∀ a ∈ Bundle.stringAtoms, a.before a0 Z = true) (hEL : EW Z a0 EL) (hmem : (own, index) ∈ EL) {vs : List Value} {z : Int32} (ht : (∀ c ∈ text.toList, c.toNat < 256) ∧ text.toList.map (fun c => Value.int (Jvm.Lit.byteI c.toNat.toUInt16)) = vs) (hz : ¬ z < 0) (hlz : z.toNatClampNeg = vs.length) (hn : 4 * text.toList.length ≤ n) (hbig : n ≤ 536870912) (hc : cells + 2 ≤ R.cells) (hl : slots + (n + 4) ≤ R.slots) (hd : decode code pc = .ok (.ldc index, 2)) (hp : pc + 2 = pc1)
    (K : ∀ (a : Addr) (T' : State) (h' : Heap) (b : Addr) (k : ClassId), Pos p l e R s m args below meth c code Z EL wl hS own T'.vm T' locs (cells + 2) (slots + (n + 4)) h' → Ext h h' → CHr Z EL vm0 h T'.vm h' → Exa Z h' a "java/lang/String" → Fld Z h' a "java/lang/String" "coder" "B" (.int 0) → Fld Z h' a "java/lang/String" "value" "[B" (.ref b) → Arv Z h' b k .byte z vs (.int 0) → (∀ x, Safe Z EL T'.vm h' x → x ≠ a ∧ x ≠ b) → Lit (s.setVm T'.vm) own index a → Go p.tables e below G (T'.setTop (mkF m pc1 ls (.ref a :: st)))) : Go p.tables e below G (T.setTop (mkF m pc ls st)) := by
  subst hp
  obtain ⟨X, eT, hsi, hZ, hown, N, n1, C, hx, hby⟩ := P
  obtain ⟨k0, q1, q2⟩ := hsi
  obtain ⟨a, T', h', k1, b, k, X', e', E', hS2, hk2, hW, hf, y1, y2, y3, y4, -, -, hC, hL, hne, stp⟩ := RoadKit.ldcCH X hx hZ hown w wS eT q1 q2 hEL hmem C.1 ht hz hlz (g := mkF m pc ls st) rfl (hb hby hd) hn hbig hc hl
  exact Go.via stp (K a T' h' b k ⟨X', e', ⟨k1, hS2, hk2⟩, hW, hf, N, n1, C.trans hC, hx, hby⟩ E' hC y1 y2 y3 y4 hne hL)
theorem Pos.ldcK (P : Pos p l e R s m args below meth c code Z EL wl hS own vm0 T locs cells slots h) {index : Nat} {text : String} {n : Nat} (w : (Cond.stringLink own index text).before a0 Z = true) (wS : ∀ a ∈ Bundle.stringAtoms, a.before a0 Z = true) (hEL : EW Z a0 EL) (hmem : (own, index) ∈ EL) {vs : List Value} {z : Int32} (ht : (∀ c ∈ text.toList, c.toNat < 256) ∧ text.toList.map (fun c => Value.int (Jvm.Lit.byteI c.toNat.toUInt16)) = vs) (hz : ¬ z < 0) (hlz : z.toNatClampNeg = vs.length) (hn : 4 * text.toList.length ≤ n) (hbig : n ≤ 536870912) (hc : cells + 2 ≤ R.cells) (hl : slots + (n + 4) ≤ R.slots) (hd : decode code pc = .ok (.ldc index, 2)) (hp : pc + 2 = pc1)
    (K : ∀ (a : Addr) (T' : State) (h' : Heap) (b : Addr) (k : ClassId), Pos p l e R s m args below meth c code Z EL wl hS own T'.vm T' locs (cells + 2) (slots + (n + 4)) h' → Ext h h' → CHr Z EL vm0 h T'.vm h' → Exa Z h' a "java/lang/String" → Fld Z h' a "java/lang/String" "coder" "B" (.int 0) → Fld Z h' a "java/lang/String" "value" "[B" (.ref b) → Arv Z h' b k .byte z vs (.int 0) → (∀ x, Safe Z EL T'.vm h' x → x ≠ a ∧ x ≠ b) → Lit (s.setVm T'.vm) own index a → (s.setVm vm0).Warmed39 T'.vm → Go p.tables e below G (T'.setTop (mkF m pc1 ls (.ref a :: st)))) : Go p.tables e below G (T.setTop (mkF m pc ls st)) := by
  subst hp
  obtain ⟨X, eT, hsi, hZ, hown, N, n1, C, hx, hby⟩ := P
  obtain ⟨k0, q1, q2⟩ := hsi
  obtain ⟨a, T', h', k1, b, k, X', e', E', hS2, hk2, hW, hf, y1, y2, y3, y4, -, -, hC, hL, hne, stp⟩ := RoadKit.ldcCH (s := s.setVm vm0) (vm0 := vm0) X hx hZ hown w wS eT ((State.WarmedH.refl (s.setVm vm0)).since 0) (Nat.zero_le _) hEL hmem C.1 ht hz hlz (g := mkF m pc ls st) rfl (hb hby hd) hn hbig hc hl
  obtain ⟨r1, r2, r3, r4⟩ := rebS q1 q2 X' ⟨hS2.1, hS2.2.mono hk2⟩ E'.1 hZ hown
  exact Go.via stp (K a T' h' b k ⟨r1, e', ⟨_, r2, Nat.le_refl _⟩, r3, r4, N, n1, C.trans hC, hx, hby⟩ E' hC y1 y2 y3 y4 hne hL hS2.1)
theorem Pos.ldcA (P : Pos p l e R s m args below meth c code Z EL wl hS own vm0 T locs cells slots h) {index : Nat} {text : String} {a : Addr} (w : (Cond.stringLink own index text).before a0 Z = true) (L : Lit (s.setVm vm0) own index a) (hd : decode code pc = .ok (.ldc index, 2)) (hp : pc + 2 = pc1) (K : Go p.tables e below G (T.setTop (mkF m pc1 ls (.ref a :: st)))) : Go p.tables e below G (T.setTop (mkF m pc ls st)) := by
  subst hp; exact Go.via (RoadKit.ldcAgain P.1 P.q.2.1 P.2.2.2.1 P.2.2.2.2.1 w L (g := mkF m pc ls st) rfl (hb P.q.2.2 hd)) K
theorem Pos.newPE (P : Pos p l e R s m args below meth c code Z EL wl hS own vm0 T locs cells slots h) {aty : ArrayType} {n : Int32} {cap : Nat} {ad : String} (w : (Cond.arrayClass (newarray.typeOf aty)).before a0 Z = true) (had : "[" ++ (newarray.typeOf aty).toString = ad) (hn : ¬ n < 0) (hcap : n.toNatClampNeg ≤ cap) (hb8 : cap * 8 ≤ 536870912) (hc : cells + 1 ≤ R.cells) (hl : slots + cap ≤ R.slots) (hd : decode code pc = .ok (.newarray aty, 2)) (hp : pc + 2 = pc1) (K : ∀ (T' : State) (h' : Heap) (x : Addr) (k : ClassId), x = h.size → Pos p l e R s m args below meth c code Z EL wl hS own vm0 T' locs (cells + 1) (slots + cap) h' → Ext h h' → Arv Z h' x k (newarray.typeOf aty) n (List.replicate n.toNatClampNeg (defaultValue (newarray.typeOf aty))) (defaultValue (newarray.typeOf aty)) → Exa Z h' x ad → Go p.tables e below G (T'.setTop (mkF m pc1 ls (.ref x :: st)))) : Go p.tables e below G (T.setTop (mkF m pc ls (.int n :: st))) := by
  subst hp
  obtain ⟨T', h', k, X', e', E', A', Y', stp⟩ := RoadKit.newPE P.1 P.q.2.1 P.hz w P.heap (g := mkF m pc ls (.int n :: st)) rfl (hb P.q.2.2 hd) rfl hn hcap hb8 hc hl had
  exact Go.via stp (K T' h' _ k rfl (P.grown X' e' E') E' ((Arv.new A' hn).pad (pad_rep [] _ _)) Y')
theorem Pos.callS (P : Pos p l e R s m args below meth c code Z EL wl hS own vm0 T locs cells slots h) {index : Nat} {y : MethodName} {bytes : ByteArray} {maxL : Nat} {ret : Option FieldType} {as' : Array Value} {rc rs W : Nat} {Q : Option Value → Heap → List Loc → Prop} {argsL st0 : List Value} (w1 : (Cond.methodLink own index y).before a0 Z = true) (w2 : (Cond.static y).before a0 Z = true) (w3 : (Cond.initialized y.cls).before a0 Z = true) (w4 : (Cond.code y bytes maxL ret).before a0 Z = true) (hy : y.cls ≠ "java/lang/invoke/MethodHandle" ∧ y.cls ≠ "java/lang/invoke/VarHandle") (hK : Back l R p e below (s.setVm vm0) args y 3 W (fun A a => a = as' ∧ A.U.heap = h ∧ A.cells + rc ≤ R.cells ∧ A.slots + rs ≤ R.slots) (fun A _ v B => ∃ L, Q v B.U.heap L ∧ B.locs = A.locs ++ L ∧ B.cells = A.cells + rc ∧ B.slots = A.slots + rs)) (hlen : ∀ sig, parseMethodDescriptor y.desc = some sig → argsL.length = sig.parameters.length) (hst : st = argsL.reverse ++ st0) (has : argsL.toArray = as') (hW : (st0.map fun v => v.category).sum ≤ W) (hsize : ls.size = c.maxLocals) (hc : cells + rc ≤ R.cells) (hs : slots + rs ≤ R.slots) (hF : ∀ v h' L, Q v h' L → Frw wl hS.size L ∧ CHr Z EL vm0 h vm0 h') (hd : decode code pc = .ok (.invokestatic index, 3)) (hp : pc + 3 = pc1)
    (K : ∀ (v : Option Value) (T' : State) (h' : Heap) (L : List Loc), Q v h' L → Pos p l e R s m args below meth c code Z EL wl hS own vm0 T' (locs ++ L) (cells + rc) (slots + rs) h' → Go p.tables e below G (T'.setTop (mkF m pc1 ls (v.toList ++ st0)))) : Go p.tables e below G (T.setTop (mkF m pc ls st)) := by
  subst hp
  obtain ⟨v, vm₁, ⟨U, Lx, cx, sx⟩, -, X', ⟨L, hQ, l1, l2, l3⟩, stp⟩ := Jvm.LawKit.callS P.1 P.q.2.1 P.2.2.2.2.1 (mvT P.hz w1) (mvT P.hz w2) (mvT P.hz w3) (mvT P.hz w4) hy hK (g := mkF m pc ls st) rfl hsize (argsL := argsL) (rest := st0) hlen hst (by show 2 * 0 + _ ≤ _; omega) (hb P.q.2.2 hd) (fun _ _ => ⟨has, P.heap, hc, hs⟩)
  dsimp only [Pt.U, Pt.locs, Pt.cells, Pt.slots] at *
  subst l1 l2 l3
  exact Go.via stp (K v U _ L hQ (P.came X' (hF _ _ _ hQ).1 (hF _ _ _ hQ).2))
theorem Pos.callN (P : Pos p l e R s m args below meth c code Z EL wl hS own vm0 T locs cells slots h) {index : Nat} {y : MethodName} {bytes : ByteArray} {maxL : Nat} {x : Addr} {as' : Array Value} {rc rs W : Nat} {Q : Option Value → Heap → List Loc → Prop} {argsL st0 : List Value} (hy1 : y.name = "<init>") (w1 : (Cond.methodLink own index y).before a0 Z = true) (w2 : (Cond.instanceMethod y).before a0 Z = true) (w4 : (Cond.code y bytes maxL none).before a0 Z = true) (hy : y.cls ≠ "java/lang/invoke/MethodHandle" ∧ y.cls ≠ "java/lang/invoke/VarHandle") (hK : Back l R p e below (s.setVm vm0) args y 3 W (fun A a => a = as' ∧ A.U.heap = h ∧ A.cells + rc ≤ R.cells ∧ A.slots + rs ≤ R.slots) (fun A _ v B => ∃ L, Q v B.U.heap L ∧ B.locs = A.locs ++ L ∧ B.cells = A.cells + rc ∧ B.slots = A.slots + rs)) (hlen : ∀ sig, parseMethodDescriptor y.desc = some sig → argsL.length = sig.parameters.length) (hst : st = argsL.reverse ++ .ref x :: st0) (has : (.ref x :: argsL).toArray = as') (hW : (st0.map fun v => v.category).sum ≤ W) (hsize : ls.size = c.maxLocals) (hc : cells + rc ≤ R.cells) (hs : slots + rs ≤ R.slots) (hF : ∀ v h' L, Q v h' L → Frw wl hS.size L ∧ CHr Z EL vm0 h vm0 h') (hd : decode code pc = .ok (.invokespecial index, 3)) (hp : pc + 3 = pc1)
    (K : ∀ (v : Option Value) (T' : State) (h' : Heap) (L : List Loc), Q v h' L → Pos p l e R s m args below meth c code Z EL wl hS own vm0 T' (locs ++ L) (cells + rc) (slots + rs) h' → Go p.tables e below G (T'.setTop (mkF m pc1 ls (v.toList ++ st0)))) : Go p.tables e below G (T.setTop (mkF m pc ls st)) := by
  subst hp
  obtain ⟨v, vm₁, ⟨U, Lx, cx, sx⟩, -, X', ⟨L, hQ, l1, l2, l3⟩, stp⟩ := Stand.specialBack P.1 P.q.2.1 hy1 P.2.2.2.2.1 (mvT P.hz w1) (mvT P.hz w2) (mvT P.hz w4) hy hK (g := mkF m pc ls st) rfl hsize (Steps.refl _) (a := x) (argsL := argsL) (rest := st0) hlen hst (by show 2 * 0 + _ ≤ _; omega) (hb P.q.2.2 hd) (fun _ _ => ⟨has, P.heap, hc, hs⟩)
  dsimp only [Pt.U, Pt.locs, Pt.cells, Pt.slots] at *
  subst l1 l2 l3
  exact Go.tr stp (K v U _ L hQ (P.came X' (hF _ _ _ hQ).1 (hF _ _ _ hQ).2))
theorem Pos.callV (P : Pos p l e R s m args below meth c code Z EL wl hS own vm0 T locs cells slots h) {index : Nat} {y z : MethodName} {x : Addr} {C : String} {as' : Array Value} {rc rs W : Nat} {Q : Option Value → Heap → List Loc → Prop} {argsL st0 : List Value} (E : Exa Z h x C) (w1 : (Cond.methodLink own index y).before a0 Z = true) (w2 : (Cond.declares y).before a0 Z = true) (w3 : (Cond.selects C y z).before a0 Z = true) (w4 : (Cond.instanceMethod z).before a0 Z = true) (nf : NotFace (s.setVm vm0) y) (hy : y.cls ≠ "java/lang/invoke/MethodHandle" ∧ y.cls ≠ "java/lang/invoke/VarHandle") (hK : Back l R p e below (s.setVm vm0) args z 3 W (fun A a => a = as' ∧ A.U.heap = h ∧ A.cells + rc ≤ R.cells ∧ A.slots + rs ≤ R.slots) (fun A _ v B => ∃ L, Q v B.U.heap L ∧ B.locs = A.locs ++ L ∧ B.cells = A.cells + rc ∧ B.slots = A.slots + rs)) (hlen : ∀ sig, parseMethodDescriptor y.desc = some sig → argsL.length = sig.parameters.length) (hst : st = argsL.reverse ++ .ref x :: st0) (has : (.ref x :: argsL).toArray = as') (hW : (st0.map fun v => v.category).sum ≤ W) (hsize : ls.size = c.maxLocals) (hc : cells + rc ≤ R.cells) (hs : slots + rs ≤ R.slots) (hF : ∀ v h' L, Q v h' L → Frw wl hS.size L ∧ CHr Z EL vm0 h vm0 h') (hd : decode code pc = .ok (.invokevirtual index, 3)) (hp : pc + 3 = pc1)
    (K : ∀ (v : Option Value) (T' : State) (h' : Heap) (L : List Loc), Q v h' L → Pos p l e R s m args below meth c code Z EL wl hS own vm0 T' (locs ++ L) (cells + rc) (slots + rs) h' → Go p.tables e below G (T'.setTop (mkF m pc1 ls (v.toList ++ st0)))) : Go p.tables e below G (T.setTop (mkF m pc ls st)) := by
  subst hp
  obtain ⟨cq, kq, qa, qb, qc⟩ := isOf P.hz P.heap E
  obtain ⟨v, vm₁, ⟨U, Lx, cx, sx⟩, -, X', ⟨L, hQ, l1, l2, l3⟩, stp⟩ := Stand.virtualBack P.1 P.q.2.1 (y := y) (z := z) P.2.2.2.2.1 (mvT P.hz w1) (mvT P.hz w2) nf (mvT P.hz w3) (mvT P.hz w4) hy hK qa qc (g := mkF m pc ls st) rfl hsize (Steps.refl _) (argsL := argsL) (rest := st0) hlen hst (by show 2 * 0 + _ ≤ _; omega) (hb P.q.2.2 hd) (fun _ _ => ⟨has, P.heap, hc, hs⟩)
  dsimp only [Pt.U, Pt.locs, Pt.cells, Pt.slots] at *
  subst l1 l2 l3
  exact Go.tr stp (K v U _ L hQ (P.came X' (hF _ _ _ hQ).1 (hF _ _ _ hQ).2))
theorem Pos.callVU (P : Pos p l e R s m args below meth c code Z EL wl hS own vm0 T locs cells slots h) {index : Nat} {y z : MethodName} {x : Addr} {C owner : String} {as' : Array Value} {rc rs W : Nat} {Q : Option Value → Heap → List Loc → Prop} {argsL st0 : List Value} (E : Exa Z h x C) (w1 : (Cond.methodLink own index y).before a0 Z = true) (w2 : (Cond.sameMethod y.cls owner y.name y.desc).before a0 Z = true) (w5 : (Cond.declares ⟨owner, y.name, y.desc⟩).before a0 Z = true) (hy : owner ≠ "java/lang/invoke/MethodHandle" ∧ owner ≠ "java/lang/invoke/VarHandle") (w3 : (Cond.selects C y z).before a0 Z = true) (w4 : (Cond.instanceMethod z).before a0 Z = true) (hK : Back l R p e below (s.setVm vm0) args z 3 W (fun A a => a = as' ∧ A.U.heap = h ∧ A.cells + rc ≤ R.cells ∧ A.slots + rs ≤ R.slots) (fun A _ v B => ∃ L, Q v B.U.heap L ∧ B.locs = A.locs ++ L ∧ B.cells = A.cells + rc ∧ B.slots = A.slots + rs)) (hlen : ∀ sig, parseMethodDescriptor y.desc = some sig → argsL.length = sig.parameters.length) (hst : st = argsL.reverse ++ .ref x :: st0) (has : (.ref x :: argsL).toArray = as') (hW : (st0.map fun v => v.category).sum ≤ W) (hsize : ls.size = c.maxLocals) (hc : cells + rc ≤ R.cells) (hs : slots + rs ≤ R.slots) (hF : ∀ v h' L, Q v h' L → Frw wl hS.size L ∧ CHr Z EL vm0 h vm0 h') (hd : decode code pc = .ok (.invokevirtual index, 3)) (hp : pc + 3 = pc1)
    (K : ∀ (v : Option Value) (T' : State) (h' : Heap) (L : List Loc), Q v h' L → Pos p l e R s m args below meth c code Z EL wl hS own vm0 T' (locs ++ L) (cells + rc) (slots + rs) h' → Go p.tables e below G (T'.setTop (mkF m pc1 ls (v.toList ++ st0)))) : Go p.tables e below G (T.setTop (mkF m pc ls st)) := by
  subst hp
  obtain ⟨cq, kq, qa, qb, qc⟩ := isOf P.hz P.heap E
  obtain ⟨v, vm₁, ⟨U, Lx, cx, sx⟩, -, X', ⟨L, hQ, l1, l2, l3⟩, stp⟩ := Stand.virtualBackUp P.1 P.q.2.1 (x := y) (y := z) P.2.2.2.2.1 (mvT P.hz w1) (mvT P.hz w2) (mvT P.hz w5) hy (mvT P.hz w3) (mvT P.hz w4) hK qa qc (g := mkF m pc ls st) rfl hsize (Steps.refl _) (argsL := argsL) (rest := st0) hlen hst (by show 2 * 0 + _ ≤ _; omega) (hb P.q.2.2 hd) (fun _ _ => ⟨has, P.heap, hc, hs⟩)
  dsimp only [Pt.U, Pt.locs, Pt.cells, Pt.slots] at *
  subst l1 l2 l3
  exact Go.tr stp (K v U _ L hQ (P.came X' (hF _ _ _ hQ).1 (hF _ _ _ hQ).2))
theorem Pos.callI (P : Pos p l e R s m args below meth c code Z EL wl hS own vm0 T locs cells slots h) {index count : Nat} {xi y : MethodName} {x : Addr} {C : String} {as' : Array Value} {rc rs W : Nat} {Q : Option Value → Heap → List Loc → Prop} {argsL st0 : List Value} (E : Exa Z h x C) (w1 : (Cond.methodLink own index xi).before a0 Z = true) (w2 : (Cond.declares xi).before a0 Z = true) (w3 : (Cond.interfaceMethod xi.cls xi.cls xi.name xi.desc).before a0 Z = true) (h3 : ((Cond.interfaceMethod xi.cls xi.cls xi.name xi.desc).onTables && (Cond.interfaceMethod xi.cls xi.cls xi.name xi.desc).keepsFace) = true) (w4 : (Cond.selects C xi y).before a0 Z = true) (w5 : (Cond.instanceMethod y).before a0 Z = true) (w6 : (Cond.publicMethod y).before a0 Z = true) (w7 : (Cond.unhidden C xi.name xi.desc).before a0 Z = true) (w8 : (Cond.castable C xi.cls).before a0 Z = true) (hy : xi.cls ≠ "java/lang/invoke/MethodHandle" ∧ xi.cls ≠ "java/lang/invoke/VarHandle") (hK : Back l R p e below (s.setVm vm0) args y 5 W (fun A a => a = as' ∧ A.U.heap = h ∧ A.cells + rc ≤ R.cells ∧ A.slots + rs ≤ R.slots) (fun A _ v B => ∃ L, Q v B.U.heap L ∧ B.locs = A.locs ++ L ∧ B.cells = A.cells + rc ∧ B.slots = A.slots + rs)) (hlen : ∀ sig, parseMethodDescriptor xi.desc = some sig → argsL.length = sig.parameters.length) (hst : st = argsL.reverse ++ .ref x :: st0) (has : (.ref x :: argsL).toArray = as') (hW : (st0.map fun v => v.category).sum ≤ W) (hsize : ls.size = c.maxLocals) (hc : cells + rc ≤ R.cells) (hs : slots + rs ≤ R.slots) (hF : ∀ v h' L, Q v h' L → Frw wl hS.size L ∧ CHr Z EL vm0 h vm0 h') (hd : decode code pc = .ok (.invokeinterface index count, 5)) (hp : pc + 5 = pc1)
    (K : ∀ (v : Option Value) (T' : State) (h' : Heap) (L : List Loc), Q v h' L → Pos p l e R s m args below meth c code Z EL wl hS own vm0 T' (locs ++ L) (cells + rc) (slots + rs) h' → Go p.tables e below G (T'.setTop (mkF m pc1 ls (v.toList ++ st0)))) : Go p.tables e below G (T.setTop (mkF m pc ls st)) := by
  subst hp
  obtain ⟨cq, kq, qa, qb, qc⟩ := isOf P.hz P.heap E
  obtain ⟨v, vm₁, ⟨U, Lx, cx, sx⟩, -, X', ⟨L, hQ, l1, l2, l3⟩, stp⟩ := Stand.interfaceBack P.1 P.q.2.1 P.2.2.2.2.1 (mvT P.hz w1) (mvT P.hz w2) (mvT P.hz w3 h3) (mvT P.hz w4) (mvT P.hz w5) (mvT P.hz w6) (mvT P.hz w7) (mvT P.hz w8) hy hK qa qb qc (g := mkF m pc ls st) rfl hsize (Steps.refl _) (argsL := argsL) (rest := st0) hlen hst (by show 2 * 0 + _ ≤ _; omega) (hb P.q.2.2 hd) (fun _ _ => ⟨has, P.heap, hc, hs⟩)
  dsimp only [Pt.U, Pt.locs, Pt.cells, Pt.slots] at *
  subst l1 l2 l3
  exact Go.tr stp (K v U _ L hQ (P.came X' (hF _ _ _ hQ).1 (hF _ _ _ hQ).2))
theorem Pos.callU (P : Pos p l e R s m args below meth c code Z EL wl hS own vm0 T locs cells slots h) {index : Nat} {y : MethodName} {bytes : ByteArray} {maxL : Nat} {ret : Option FieldType} {x : Addr} {C : String} {as' : Array Value} {rc rs W : Nat} {Q : Option Value → Heap → List Loc → Prop} {argsL st0 : List Value} (E : Ins Z h x C true) (w1 : (Cond.methodLink own index y).before a0 Z = true) (w2 : (Cond.sameMethod y.cls y.cls y.name y.desc).before a0 Z = true) (w3 : (Cond.instanceMethod y).before a0 Z = true) (w4 : (Cond.superclass own y.cls).before a0 Z = true) (hn : y.name ≠ "<init>") (wc : (Cond.code y bytes maxL ret).before a0 Z = true) (hK : Back l R p e below (s.setVm vm0) args y 3 W (fun A a => a = as' ∧ A.U.heap = h ∧ A.cells + rc ≤ R.cells ∧ A.slots + rs ≤ R.slots) (fun A _ v B => ∃ L, Q v B.U.heap L ∧ B.locs = A.locs ++ L ∧ B.cells = A.cells + rc ∧ B.slots = A.slots + rs)) (hlen : ∀ sig, parseMethodDescriptor y.desc = some sig → argsL.length = sig.parameters.length) (hst : st = argsL.reverse ++ .ref x :: st0) (has : (.ref x :: argsL).toArray = as') (hW : (st0.map fun v => v.category).sum ≤ W) (hsize : ls.size = c.maxLocals) (hc : cells + rc ≤ R.cells) (hs : slots + rs ≤ R.slots) (hF : ∀ v h' L, Q v h' L → Frw wl hS.size L ∧ CHr Z EL vm0 h vm0 h') (hd : decode code pc = .ok (.invokespecial index, 3)) (hp : pc + 3 = pc1)
    (K : ∀ (v : Option Value) (T' : State) (h' : Heap) (L : List Loc), Q v h' L → Pos p l e R s m args below meth c code Z EL wl hS own vm0 T' (locs ++ L) (cells + rc) (slots + rs) h' → Go p.tables e below G (T'.setTop (mkF m pc1 ls (v.toList ++ st0)))) : Go p.tables e below G (T.setTop (mkF m pc ls st)) := by
  subst hp
  obtain ⟨v, vm₁, ⟨U, Lx, cx, sx⟩, -, X', ⟨L, hQ, l1, l2, l3⟩, stp⟩ := RoadKit.superBack P.1 P.q.2.1 P.hz P.2.2.2.2.1 w1 w2 w3 w4 hn hK P.heap E (g := mkF m pc ls st) rfl hsize wc (argsL := argsL) (rest := st0) hlen hst (by show 2 * 0 + _ ≤ _; omega) (hb P.q.2.2 hd) (fun _ _ => ⟨has, P.heap, hc, hs⟩)
  dsimp only [Pt.U, Pt.locs, Pt.cells, Pt.slots] at *
  subst l1 l2 l3
  exact Go.tr stp (K v U _ L hQ (P.came X' (hF _ _ _ hQ).1 (hF _ _ _ hQ).2))
theorem Pos.callSW (P : Pos p l e R s m args below meth c code Z EL wl hS own vm0 T locs cells slots h) {index : Nat} {y : MethodName} {bytes : ByteArray} {maxL : Nat} {ret : Option FieldType} {as' : Array Value} {rc rs W : Nat} {Q : Option Value → Heap → List Loc → Prop} {argsL st0 : List Value} (w1 : (Cond.methodLink own index y).before a0 Z = true) (w2 : (Cond.static y).before a0 Z = true) (w3 : (Cond.initialized y.cls).before a0 Z = true) (w4 : (Cond.code y bytes maxL ret).before a0 Z = true) (hy : y.cls ≠ "java/lang/invoke/MethodHandle" ∧ y.cls ≠ "java/lang/invoke/VarHandle") (hK : BackS l R p e below (s.setVm vm0) args y 3 W (fun A a => a = as' ∧ A.U.heap = h ∧ A.cells + rc ≤ R.cells ∧ A.slots + rs ≤ R.slots) (fun A _ v B => ∃ L, Q v B.U.heap L ∧ B.locs = A.locs ++ L ∧ B.cells = A.cells + rc ∧ B.slots = A.slots + rs ∧ CHr Z EL vm0 h B.U.vm B.U.heap)) (hlen : ∀ sig, parseMethodDescriptor y.desc = some sig → argsL.length = sig.parameters.length) (hst : st = argsL.reverse ++ st0) (has : argsL.toArray = as') (hW : (st0.map fun v => v.category).sum ≤ W) (hsize : ls.size = c.maxLocals) (hc : cells + rc ≤ R.cells) (hs : slots + rs ≤ R.slots) (hF : ∀ v h' L, Q v h' L → Frw wl hS.size L) (hd : decode code pc = .ok (.invokestatic index, 3)) (hp : pc + 3 = pc1)
    (K : ∀ (v : Option Value) (T' : State) (h' : Heap) (L : List Loc), Q v h' L → Pos p l e R s m args below meth c code Z EL wl hS own T'.vm T' (locs ++ L) (cells + rc) (slots + rs) h' → CHr Z EL vm0 h T'.vm h' → Go p.tables e below G (T'.setTop (mkF m pc1 ls (v.toList ++ st0)))) : Go p.tables e below G (T.setTop (mkF m pc ls st)) := by
  subst hp
  obtain ⟨v, vm₁, ⟨U, Lx, cx, sx⟩, -, X', hS', hgr, ⟨L, hQ, l1, l2, l3, hC⟩, stp⟩ := RoadKit.callSS P.1 P.q.2.1 P.2.2.2.2.1 (mvT P.hz w1) (mvT P.hz w2) (mvT P.hz w3) (mvT P.hz w4) hy hK (g := mkF m pc ls st) rfl hsize (argsL := argsL) (rest := st0) hlen hst (by show 2 * 0 + _ ≤ _; omega) (hb P.q.2.2 hd) (fun _ _ => ⟨has, P.heap, hc, hs⟩)
  dsimp only [Pt.U, Pt.locs, Pt.cells, Pt.slots] at *
  subst l1 l2 l3
  rw [P.heap] at hgr
  exact Go.tr stp (K v U _ L hQ (P.cameW X' hS' hgr (hF _ _ _ hQ) hC) hC)
theorem Pos.callNW (P : Pos p l e R s m args below meth c code Z EL wl hS own vm0 T locs cells slots h) {index : Nat} {y : MethodName} {bytes : ByteArray} {maxL : Nat} {x : Addr} {as' : Array Value} {rc rs W : Nat} {Q : Option Value → Heap → List Loc → Prop} {argsL st0 : List Value} (hy1 : y.name = "<init>") (w1 : (Cond.methodLink own index y).before a0 Z = true) (w2 : (Cond.instanceMethod y).before a0 Z = true) (w4 : (Cond.code y bytes maxL none).before a0 Z = true) (hy : y.cls ≠ "java/lang/invoke/MethodHandle" ∧ y.cls ≠ "java/lang/invoke/VarHandle") (hK : BackS l R p e below (s.setVm vm0) args y 3 W (fun A a => a = as' ∧ A.U.heap = h ∧ A.cells + rc ≤ R.cells ∧ A.slots + rs ≤ R.slots) (fun A _ v B => ∃ L, Q v B.U.heap L ∧ B.locs = A.locs ++ L ∧ B.cells = A.cells + rc ∧ B.slots = A.slots + rs ∧ CHr Z EL vm0 h B.U.vm B.U.heap)) (hlen : ∀ sig, parseMethodDescriptor y.desc = some sig → argsL.length = sig.parameters.length) (hst : st = argsL.reverse ++ .ref x :: st0) (has : (.ref x :: argsL).toArray = as') (hW : (st0.map fun v => v.category).sum ≤ W) (hsize : ls.size = c.maxLocals) (hc : cells + rc ≤ R.cells) (hs : slots + rs ≤ R.slots) (hF : ∀ v h' L, Q v h' L → Frw wl hS.size L) (hd : decode code pc = .ok (.invokespecial index, 3)) (hp : pc + 3 = pc1)
    (K : ∀ (v : Option Value) (T' : State) (h' : Heap) (L : List Loc), Q v h' L → Pos p l e R s m args below meth c code Z EL wl hS own T'.vm T' (locs ++ L) (cells + rc) (slots + rs) h' → CHr Z EL vm0 h T'.vm h' → Go p.tables e below G (T'.setTop (mkF m pc1 ls (v.toList ++ st0)))) : Go p.tables e below G (T.setTop (mkF m pc ls st)) := by
  subst hp
  obtain ⟨v, vm₁, ⟨U, Lx, cx, sx⟩, -, X', hS', hgr, ⟨L, hQ, l1, l2, l3, hC⟩, stp⟩ := Stand.specialBackS P.1 P.q.2.1 hy1 P.2.2.2.2.1 (mvT P.hz w1) (mvT P.hz w2) (mvT P.hz w4) hy hK (g := mkF m pc ls st) rfl hsize (Steps.refl _) (a := x) (argsL := argsL) (rest := st0) hlen hst (by show 2 * 0 + _ ≤ _; omega) (hb P.q.2.2 hd) (fun _ _ => ⟨has, P.heap, hc, hs⟩)
  dsimp only [Pt.U, Pt.locs, Pt.cells, Pt.slots] at *
  subst l1 l2 l3
  rw [P.heap] at hgr
  exact Go.tr stp (K v U _ L hQ (P.cameW X' hS' hgr (hF _ _ _ hQ) hC) hC)
theorem Pos.callVW (P : Pos p l e R s m args below meth c code Z EL wl hS own vm0 T locs cells slots h) {index : Nat} {y z : MethodName} {x : Addr} {C : String} {as' : Array Value} {rc rs W : Nat} {Q : Option Value → Heap → List Loc → Prop} {argsL st0 : List Value} (E : Exa Z h x C) (w1 : (Cond.methodLink own index y).before a0 Z = true) (w2 : (Cond.declares y).before a0 Z = true) (w3 : (Cond.selects C y z).before a0 Z = true) (w4 : (Cond.instanceMethod z).before a0 Z = true) (nf : NotFace (s.setVm vm0) y) (hy : y.cls ≠ "java/lang/invoke/MethodHandle" ∧ y.cls ≠ "java/lang/invoke/VarHandle") (hK : BackS l R p e below (s.setVm vm0) args z 3 W (fun A a => a = as' ∧ A.U.heap = h ∧ A.cells + rc ≤ R.cells ∧ A.slots + rs ≤ R.slots) (fun A _ v B => ∃ L, Q v B.U.heap L ∧ B.locs = A.locs ++ L ∧ B.cells = A.cells + rc ∧ B.slots = A.slots + rs ∧ CHr Z EL vm0 h B.U.vm B.U.heap)) (hlen : ∀ sig, parseMethodDescriptor y.desc = some sig → argsL.length = sig.parameters.length) (hst : st = argsL.reverse ++ .ref x :: st0) (has : (.ref x :: argsL).toArray = as') (hW : (st0.map fun v => v.category).sum ≤ W) (hsize : ls.size = c.maxLocals) (hc : cells + rc ≤ R.cells) (hs : slots + rs ≤ R.slots) (hF : ∀ v h' L, Q v h' L → Frw wl hS.size L) (hd : decode code pc = .ok (.invokevirtual index, 3)) (hp : pc + 3 = pc1)
    (K : ∀ (v : Option Value) (T' : State) (h' : Heap) (L : List Loc), Q v h' L → Pos p l e R s m args below meth c code Z EL wl hS own T'.vm T' (locs ++ L) (cells + rc) (slots + rs) h' → CHr Z EL vm0 h T'.vm h' → Go p.tables e below G (T'.setTop (mkF m pc1 ls (v.toList ++ st0)))) : Go p.tables e below G (T.setTop (mkF m pc ls st)) := by
  subst hp
  obtain ⟨cq, kq, qa, qb, qc⟩ := isOf P.hz P.heap E
  obtain ⟨v, vm₁, ⟨U, Lx, cx, sx⟩, -, X', hS', hgr, ⟨L, hQ, l1, l2, l3, hC⟩, stp⟩ := Stand.virtualBackS P.1 P.q.2.1 (y := y) (z := z) P.2.2.2.2.1 (mvT P.hz w1) (mvT P.hz w2) nf (mvT P.hz w3) (mvT P.hz w4) hy hK qa qc (g := mkF m pc ls st) rfl hsize (Steps.refl _) (argsL := argsL) (rest := st0) hlen hst (by show 2 * 0 + _ ≤ _; omega) (hb P.q.2.2 hd) (fun _ _ => ⟨has, P.heap, hc, hs⟩)
  dsimp only [Pt.U, Pt.locs, Pt.cells, Pt.slots] at *
  subst l1 l2 l3
  rw [P.heap] at hgr
  exact Go.tr stp (K v U _ L hQ (P.cameW X' hS' hgr (hF _ _ _ hQ) hC) hC)
theorem Pos.callVUW (P : Pos p l e R s m args below meth c code Z EL wl hS own vm0 T locs cells slots h) {index : Nat} {y z : MethodName} {x : Addr} {C owner : String} {as' : Array Value} {rc rs W : Nat} {Q : Option Value → Heap → List Loc → Prop} {argsL st0 : List Value} (E : Exa Z h x C) (w1 : (Cond.methodLink own index y).before a0 Z = true) (w2 : (Cond.sameMethod y.cls owner y.name y.desc).before a0 Z = true) (w5 : (Cond.declares ⟨owner, y.name, y.desc⟩).before a0 Z = true) (hy : owner ≠ "java/lang/invoke/MethodHandle" ∧ owner ≠ "java/lang/invoke/VarHandle") (w3 : (Cond.selects C y z).before a0 Z = true) (w4 : (Cond.instanceMethod z).before a0 Z = true) (hK : BackS l R p e below (s.setVm vm0) args z 3 W (fun A a => a = as' ∧ A.U.heap = h ∧ A.cells + rc ≤ R.cells ∧ A.slots + rs ≤ R.slots) (fun A _ v B => ∃ L, Q v B.U.heap L ∧ B.locs = A.locs ++ L ∧ B.cells = A.cells + rc ∧ B.slots = A.slots + rs ∧ CHr Z EL vm0 h B.U.vm B.U.heap)) (hlen : ∀ sig, parseMethodDescriptor y.desc = some sig → argsL.length = sig.parameters.length) (hst : st = argsL.reverse ++ .ref x :: st0) (has : (.ref x :: argsL).toArray = as') (hW : (st0.map fun v => v.category).sum ≤ W) (hsize : ls.size = c.maxLocals) (hc : cells + rc ≤ R.cells) (hs : slots + rs ≤ R.slots) (hF : ∀ v h' L, Q v h' L → Frw wl hS.size L) (hd : decode code pc = .ok (.invokevirtual index, 3)) (hp : pc + 3 = pc1)
    (K : ∀ (v : Option Value) (T' : State) (h' : Heap) (L : List Loc), Q v h' L → Pos p l e R s m args below meth c code Z EL wl hS own T'.vm T' (locs ++ L) (cells + rc) (slots + rs) h' → CHr Z EL vm0 h T'.vm h' → Go p.tables e below G (T'.setTop (mkF m pc1 ls (v.toList ++ st0)))) : Go p.tables e below G (T.setTop (mkF m pc ls st)) := by
  subst hp
  obtain ⟨cq, kq, qa, qb, qc⟩ := isOf P.hz P.heap E
  obtain ⟨v, vm₁, ⟨U, Lx, cx, sx⟩, -, X', hS', hgr, ⟨L, hQ, l1, l2, l3, hC⟩, stp⟩ := Stand.virtualBackUpS P.1 P.q.2.1 (x := y) (y := z) P.2.2.2.2.1 (mvT P.hz w1) (mvT P.hz w2) (mvT P.hz w5) hy (mvT P.hz w3) (mvT P.hz w4) hK qa qc (g := mkF m pc ls st) rfl hsize (Steps.refl _) (argsL := argsL) (rest := st0) hlen hst (by show 2 * 0 + _ ≤ _; omega) (hb P.q.2.2 hd) (fun _ _ => ⟨has, P.heap, hc, hs⟩)
  dsimp only [Pt.U, Pt.locs, Pt.cells, Pt.slots] at *
  subst l1 l2 l3
  rw [P.heap] at hgr
  exact Go.tr stp (K v U _ L hQ (P.cameW X' hS' hgr (hF _ _ _ hQ) hC) hC)
theorem Pos.callIW (P : Pos p l e R s m args below meth c code Z EL wl hS own vm0 T locs cells slots h) {index count : Nat} {xi y : MethodName} {x : Addr} {C : String} {as' : Array Value} {rc rs W : Nat} {Q : Option Value → Heap → List Loc → Prop} {argsL st0 : List Value} (E : Exa Z h x C) (w1 : (Cond.methodLink own index xi).before a0 Z = true) (w2 : (Cond.declares xi).before a0 Z = true) (w3 : (Cond.interfaceMethod xi.cls xi.cls xi.name xi.desc).before a0 Z = true) (h3 : ((Cond.interfaceMethod xi.cls xi.cls xi.name xi.desc).onTables && (Cond.interfaceMethod xi.cls xi.cls xi.name xi.desc).keepsFace) = true) (w4 : (Cond.selects C xi y).before a0 Z = true) (w5 : (Cond.instanceMethod y).before a0 Z = true) (w6 : (Cond.publicMethod y).before a0 Z = true) (w7 : (Cond.unhidden C xi.name xi.desc).before a0 Z = true) (w8 : (Cond.castable C xi.cls).before a0 Z = true) (hy : xi.cls ≠ "java/lang/invoke/MethodHandle" ∧ xi.cls ≠ "java/lang/invoke/VarHandle") (hK : BackS l R p e below (s.setVm vm0) args y 5 W (fun A a => a = as' ∧ A.U.heap = h ∧ A.cells + rc ≤ R.cells ∧ A.slots + rs ≤ R.slots) (fun A _ v B => ∃ L, Q v B.U.heap L ∧ B.locs = A.locs ++ L ∧ B.cells = A.cells + rc ∧ B.slots = A.slots + rs ∧ CHr Z EL vm0 h B.U.vm B.U.heap)) (hlen : ∀ sig, parseMethodDescriptor xi.desc = some sig → argsL.length = sig.parameters.length) (hst : st = argsL.reverse ++ .ref x :: st0) (has : (.ref x :: argsL).toArray = as') (hW : (st0.map fun v => v.category).sum ≤ W) (hsize : ls.size = c.maxLocals) (hc : cells + rc ≤ R.cells) (hs : slots + rs ≤ R.slots) (hF : ∀ v h' L, Q v h' L → Frw wl hS.size L) (hd : decode code pc = .ok (.invokeinterface index count, 5)) (hp : pc + 5 = pc1)
    (K : ∀ (v : Option Value) (T' : State) (h' : Heap) (L : List Loc), Q v h' L → Pos p l e R s m args below meth c code Z EL wl hS own T'.vm T' (locs ++ L) (cells + rc) (slots + rs) h' → CHr Z EL vm0 h T'.vm h' → Go p.tables e below G (T'.setTop (mkF m pc1 ls (v.toList ++ st0)))) : Go p.tables e below G (T.setTop (mkF m pc ls st)) := by
  subst hp
  obtain ⟨cq, kq, qa, qb, qc⟩ := isOf P.hz P.heap E
  obtain ⟨v, vm₁, ⟨U, Lx, cx, sx⟩, -, X', hS', hgr, ⟨L, hQ, l1, l2, l3, hC⟩, stp⟩ := Stand.interfaceBackS P.1 P.q.2.1 P.2.2.2.2.1 (mvT P.hz w1) (mvT P.hz w2) (mvT P.hz w3 h3) (mvT P.hz w4) (mvT P.hz w5) (mvT P.hz w6) (mvT P.hz w7) (mvT P.hz w8) hy hK qa qb qc (g := mkF m pc ls st) rfl hsize (Steps.refl _) (argsL := argsL) (rest := st0) hlen hst (by show 2 * 0 + _ ≤ _; omega) (hb P.q.2.2 hd) (fun _ _ => ⟨has, P.heap, hc, hs⟩)
  dsimp only [Pt.U, Pt.locs, Pt.cells, Pt.slots] at *
  subst l1 l2 l3
  rw [P.heap] at hgr
  exact Go.tr stp (K v U _ L hQ (P.cameW X' hS' hgr (hF _ _ _ hQ) hC) hC)
/-- what a body leaves, narrow: nothing interned -/
def GN (s : State) (Q : Option Value → Heap → List Loc → Prop) (rm : Room) (o : Outcome) (U : State) : Prop := ∃ v L, o = .returned v ∧ Q v U.heap L ∧ FrameEnd s o U L rm.cells rm.slots
/-- wide -/
def GW (s : State) (Z : State) (EL : List (String × Nat)) (h0 : Heap) (Q : Option Value → Heap → List Loc → Prop) (rm : Room) (o : Outcome) (U : State) : Prop := ∃ v L, o = .returned v ∧ Q v U.heap L ∧ CHr Z EL s.vm h0 U.vm U.heap ∧ ReturnedEndW s o U L rm.cells rm.slots
theorem Pos.endN {Q : Option Value → Heap → List Loc → Prop} {v : Option Value} (P : Pos p l e R s m args below meth c code Z EL wl hS own s.vm T locs cells slots h) (hlk : meth.locks = false) (hv : meth.sig.returnType = none → v = none) (hc : cells ≤ R.cells) (hs : slots ≤ R.slots) (hQ : Q v h locs) {g : JFrame}
    (stp : ∀ fs, (∀ (f : JFrame) (acts : List Action), f.method = m → f.locked = none → f.entered = [] → (doReturn e (T.setTop f) acts v).1 = T.setFrames fs) → Steps p.tables e below (T.setTop g) (T.setFrames fs)) : Go p.tables e below (GN s Q R) (T.setTop g) := by
  obtain ⟨fs, hr, hrun, hended, hW, hsame⟩ := P.1.leave (v := v) hv hlk
  refine ⟨_, _, stp fs hr, hrun, hended, v, locs, rfl, ?_, ⟨_, rfl⟩, hW, hsame.mono hc hs⟩
  have : (T.setFrames fs).heap = h := P.heap
  rw [this]; exact hQ
theorem Pos.endW {Q : Option Value → Heap → List Loc → Prop} {v : Option Value} (P : Pos p l e R s m args below meth c code Z EL wl hS own vm0 T locs cells slots h) (hEL : EW Z a0 EL) (hlk : meth.locks = false) (hv : meth.sig.returnType = none → v = none) (hc : cells ≤ R.cells) (hs : slots ≤ R.slots) (hQ : Q v h locs) {g : JFrame}
    (stp : ∀ fs, (∀ (f : JFrame) (acts : List Action), f.method = m → f.locked = none → f.entered = [] → (doReturn e (T.setTop f) acts v).1 = T.setFrames fs) → Steps p.tables e below (T.setTop g) (T.setFrames fs)) : Go p.tables e below (GW s Z EL hS Q R) (T.setTop g) := by
  obtain ⟨X, eT, ⟨k0, q1, q2⟩, hZ, hown, N, n1, C, hx, hby⟩ := P
  have X2 := X.mono hc hs
  obtain ⟨fs, hr, hrun, hended, hEnd⟩ := X2.leaveW q1 (by rw [eT]; exact q2) (v := v) hv hlk
  have hh : (T.setFrames fs).heap = h := eT
  refine ⟨_, _, stp fs hr, hrun, hended, v, locs, rfl, by rw [hh]; exact hQ, ?_, hEnd⟩
  rw [hh]; show CHr Z EL s.vm hS T.vm h; exact C.trans (CHv.at X hZ hEL C.1)
theorem Pos.retN {Q : Option Value → Heap → List Loc → Prop} (P : Pos p l e R s m args below meth c code Z EL wl hS own s.vm T locs cells slots h) (hlk : meth.locks = false) (hret : meth.sig.returnType = none) (hd : decode code pc = .ok (.return_, 1)) (hc : cells ≤ R.cells) (hs : slots ≤ R.slots) (hQ : Q none h locs) : Go p.tables e below (GN s Q R) (T.setTop (mkF m pc ls [])) :=
  P.endN hlk (fun _ => rfl) hc hs hQ fun fs hr => P.1.returnOut P.q.2.1 hret (hb P.q.2.2 hd) hr
theorem Pos.retIN {Q : Option Value → Heap → List Loc → Prop} (P : Pos p l e R s m args below meth c code Z EL wl hS own s.vm T locs cells slots h) (hlk : meth.locks = false) (hret : meth.sig.returnType = some .int) {z : Int32} (hd : decode code pc = .ok (.ireturn, 1)) (hc : cells ≤ R.cells) (hs : slots ≤ R.slots) (hQ : Q (some (.int z)) h locs) : Go p.tables e below (GN s Q R) (T.setTop (mkF m pc ls (.int z :: st))) :=
  P.endN hlk (fun q => by rw [hret] at q; cases q) hc hs hQ fun fs hr => retOut P.1 P.q.2.1 hret rfl (Or.inl ⟨rfl, Or.inl rfl, z, rfl⟩) (hb P.q.2.2 hd) hr
theorem Pos.retVN {Q : Option Value → Heap → List Loc → Prop} (P : Pos p l e R s m args below meth c code Z EL wl hS own s.vm T locs cells slots h) (hlk : meth.locks = false) {t : FieldType} (hret : meth.sig.returnType = some t) (ht : t = .boolean ∨ t = .byte ∨ t = .char ∨ t = .short) {z : Int32} (hd : decode code pc = .ok (.ireturn, 1)) (hc : cells ≤ R.cells) (hs : slots ≤ R.slots) (hQ : Q (some (.int (nar t z))) h locs) : Go p.tables e below (GN s Q R) (T.setTop (mkF m pc ls (.int z :: st))) :=
  P.endN hlk (fun q => by rw [hret] at q; cases q) hc hs hQ fun fs hr => RoadKit.retN P.1 P.q.2.1 hret ht (hb P.q.2.2 hd) hr
theorem Pos.retAN {Q : Option Value → Heap → List Loc → Prop} (P : Pos p l e R s m args below meth c code Z EL wl hS own s.vm T locs cells slots h) (hlk : meth.locks = false) {t : FieldType} (hret : meth.sig.returnType = some t) (ht : t.isReference = true) {v : Value} (hv : v.isRef = true) (hn : narrow t v = v) (hd : decode code pc = .ok (.areturn, 1)) (hc : cells ≤ R.cells) (hs : slots ≤ R.slots) (hQ : Q (some v) h locs) : Go p.tables e below (GN s Q R) (T.setTop (mkF m pc ls (v :: st))) :=
  P.endN hlk (fun q => by rw [hret] at q; cases q) hc hs hQ fun fs hr => retOut P.1 P.q.2.1 hret hn (Or.inr (Or.inr (Or.inr (Or.inr ⟨rfl, ht, hv⟩)))) (hb P.q.2.2 hd) hr
theorem Pos.retDN {Q : Option Value → Heap → List Loc → Prop} (P : Pos p l e R s m args below meth c code Z EL wl hS own s.vm T locs cells slots h) (hlk : meth.locks = false) (hret : meth.sig.returnType = some .double) {z : UInt64} (hd : decode code pc = .ok (.dreturn, 1)) (hc : cells ≤ R.cells) (hs : slots ≤ R.slots) (hQ : Q (some (.double z)) h locs) : Go p.tables e below (GN s Q R) (T.setTop (mkF m pc ls (.double z :: st))) :=
  P.endN hlk (fun q => by rw [hret] at q; cases q) hc hs hQ fun fs hr => retOut P.1 P.q.2.1 hret rfl (Or.inr (Or.inr (Or.inl ⟨rfl, rfl, z, rfl⟩))) (hb P.q.2.2 hd) hr
theorem Pos.retLN {Q : Option Value → Heap → List Loc → Prop} (P : Pos p l e R s m args below meth c code Z EL wl hS own s.vm T locs cells slots h) (hlk : meth.locks = false) (hret : meth.sig.returnType = some .long) {z : Int64} (hd : decode code pc = .ok (.lreturn, 1)) (hc : cells ≤ R.cells) (hs : slots ≤ R.slots) (hQ : Q (some (.long z)) h locs) : Go p.tables e below (GN s Q R) (T.setTop (mkF m pc ls (.long z :: st))) :=
  P.endN hlk (fun q => by rw [hret] at q; cases q) hc hs hQ fun fs hr => retOut P.1 P.q.2.1 hret rfl (Or.inr (Or.inl ⟨rfl, rfl, z, rfl⟩)) (hb P.q.2.2 hd) hr
theorem Pos.retFN {Q : Option Value → Heap → List Loc → Prop} (P : Pos p l e R s m args below meth c code Z EL wl hS own s.vm T locs cells slots h) (hlk : meth.locks = false) (hret : meth.sig.returnType = some .float) {z : UInt32} (hd : decode code pc = .ok (.freturn, 1)) (hc : cells ≤ R.cells) (hs : slots ≤ R.slots) (hQ : Q (some (.float z)) h locs) : Go p.tables e below (GN s Q R) (T.setTop (mkF m pc ls (.float z :: st))) :=
  P.endN hlk (fun q => by rw [hret] at q; cases q) hc hs hQ fun fs hr => retOut P.1 P.q.2.1 hret rfl (Or.inr (Or.inr (Or.inr (Or.inl ⟨rfl, rfl, z, rfl⟩)))) (hb P.q.2.2 hd) hr
theorem Pos.retW {Q : Option Value → Heap → List Loc → Prop} (P : Pos p l e R s m args below meth c code Z EL wl hS own vm0 T locs cells slots h) (hEL : EW Z a0 EL) (hlk : meth.locks = false) (hret : meth.sig.returnType = none) (hd : decode code pc = .ok (.return_, 1)) (hc : cells ≤ R.cells) (hs : slots ≤ R.slots) (hQ : Q none h locs) : Go p.tables e below (GW s Z EL hS Q R) (T.setTop (mkF m pc ls [])) :=
  P.endW hEL hlk (fun _ => rfl) hc hs hQ fun fs hr => P.1.returnOut P.q.2.1 hret (hb P.q.2.2 hd) hr
theorem Pos.retIW {Q : Option Value → Heap → List Loc → Prop} (P : Pos p l e R s m args below meth c code Z EL wl hS own vm0 T locs cells slots h) (hEL : EW Z a0 EL) (hlk : meth.locks = false) (hret : meth.sig.returnType = some .int) {z : Int32} (hd : decode code pc = .ok (.ireturn, 1)) (hc : cells ≤ R.cells) (hs : slots ≤ R.slots) (hQ : Q (some (.int z)) h locs) : Go p.tables e below (GW s Z EL hS Q R) (T.setTop (mkF m pc ls (.int z :: st))) :=
  P.endW hEL hlk (fun q => by rw [hret] at q; cases q) hc hs hQ fun fs hr => retOut P.1 P.q.2.1 hret rfl (Or.inl ⟨rfl, Or.inl rfl, z, rfl⟩) (hb P.q.2.2 hd) hr
theorem Pos.retVW {Q : Option Value → Heap → List Loc → Prop} (P : Pos p l e R s m args below meth c code Z EL wl hS own vm0 T locs cells slots h) (hEL : EW Z a0 EL) (hlk : meth.locks = false) {t : FieldType} (hret : meth.sig.returnType = some t) (ht : t = .boolean ∨ t = .byte ∨ t = .char ∨ t = .short) {z : Int32} (hd : decode code pc = .ok (.ireturn, 1)) (hc : cells ≤ R.cells) (hs : slots ≤ R.slots) (hQ : Q (some (.int (nar t z))) h locs) : Go p.tables e below (GW s Z EL hS Q R) (T.setTop (mkF m pc ls (.int z :: st))) :=
  P.endW hEL hlk (fun q => by rw [hret] at q; cases q) hc hs hQ fun fs hr => RoadKit.retN P.1 P.q.2.1 hret ht (hb P.q.2.2 hd) hr
theorem Pos.retAW {Q : Option Value → Heap → List Loc → Prop} (P : Pos p l e R s m args below meth c code Z EL wl hS own vm0 T locs cells slots h) (hEL : EW Z a0 EL) (hlk : meth.locks = false) {t : FieldType} (hret : meth.sig.returnType = some t) (ht : t.isReference = true) {v : Value} (hv : v.isRef = true) (hn : narrow t v = v) (hd : decode code pc = .ok (.areturn, 1)) (hc : cells ≤ R.cells) (hs : slots ≤ R.slots) (hQ : Q (some v) h locs) : Go p.tables e below (GW s Z EL hS Q R) (T.setTop (mkF m pc ls (v :: st))) :=
  P.endW hEL hlk (fun q => by rw [hret] at q; cases q) hc hs hQ fun fs hr => retOut P.1 P.q.2.1 hret hn (Or.inr (Or.inr (Or.inr (Or.inr ⟨rfl, ht, hv⟩)))) (hb P.q.2.2 hd) hr
theorem Pos.retDW {Q : Option Value → Heap → List Loc → Prop} (P : Pos p l e R s m args below meth c code Z EL wl hS own vm0 T locs cells slots h) (hEL : EW Z a0 EL) (hlk : meth.locks = false) (hret : meth.sig.returnType = some .double) {z : UInt64} (hd : decode code pc = .ok (.dreturn, 1)) (hc : cells ≤ R.cells) (hs : slots ≤ R.slots) (hQ : Q (some (.double z)) h locs) : Go p.tables e below (GW s Z EL hS Q R) (T.setTop (mkF m pc ls (.double z :: st))) :=
  P.endW hEL hlk (fun q => by rw [hret] at q; cases q) hc hs hQ fun fs hr => retOut P.1 P.q.2.1 hret rfl (Or.inr (Or.inr (Or.inl ⟨rfl, rfl, z, rfl⟩))) (hb P.q.2.2 hd) hr
theorem Pos.retLW {Q : Option Value → Heap → List Loc → Prop} (P : Pos p l e R s m args below meth c code Z EL wl hS own vm0 T locs cells slots h) (hEL : EW Z a0 EL) (hlk : meth.locks = false) (hret : meth.sig.returnType = some .long) {z : Int64} (hd : decode code pc = .ok (.lreturn, 1)) (hc : cells ≤ R.cells) (hs : slots ≤ R.slots) (hQ : Q (some (.long z)) h locs) : Go p.tables e below (GW s Z EL hS Q R) (T.setTop (mkF m pc ls (.long z :: st))) :=
  P.endW hEL hlk (fun q => by rw [hret] at q; cases q) hc hs hQ fun fs hr => retOut P.1 P.q.2.1 hret rfl (Or.inr (Or.inl ⟨rfl, rfl, z, rfl⟩)) (hb P.q.2.2 hd) hr
theorem Pos.retFW {Q : Option Value → Heap → List Loc → Prop} (P : Pos p l e R s m args below meth c code Z EL wl hS own vm0 T locs cells slots h) (hEL : EW Z a0 EL) (hlk : meth.locks = false) (hret : meth.sig.returnType = some .float) {z : UInt32} (hd : decode code pc = .ok (.freturn, 1)) (hc : cells ≤ R.cells) (hs : slots ≤ R.slots) (hQ : Q (some (.float z)) h locs) : Go p.tables e below (GW s Z EL hS Q R) (T.setTop (mkF m pc ls (.float z :: st))) :=
  P.endW hEL hlk (fun q => by rw [hret] at q; cases q) hc hs hQ fun fs hr => retOut P.1 P.q.2.1 hret rfl (Or.inr (Or.inr (Or.inr (Or.inl ⟨rfl, rfl, z, rfl⟩)))) (hb P.q.2.2 hd) hr
end Heapy
section Met
/-- what a stack trace asks of the tables and of the frames beneath -/
abbrev KK : Program → Env → List Frame → State → Array Value → Prop := fun _ _ bl s _ => s.vm.MethodsKnown ∧ s.vm.FramesKnown bl
variable {l : Launch} {Z : State} {EL : List (String × Nat)} {y : MethodName} {bytes : ByteArray} {maxL : Nat} {ret : Option FieldType} {ws : List Jvm.Cond} {rm : Room} {as' : Array Value} {h0 : Heap} {Q : Option Value → Heap → List Loc → Prop} {a0 : Array Value}
/-- a body's contract, narrow (nothing interned) -/
def MetN (l : Launch) (Z : State) (y : MethodName) (bytes : ByteArray) (maxL : Nat) (ret : Option FieldType) (ws : List Jvm.Cond) (rm : Room) (as' : Array Value) (h0 : Heap) (Q : Option Value → Heap → List Loc → Prop) : Prop :=
  MetFree l y (head1 (Jvm.Cond.code y bytes maxL ret :: ws) rm) (fun a U => a = as' ∧ Z.Warmed39 U.vm ∧ U.heap = h0) (fun _ _ _ _ _ => True) (fun _ U o U' => GN U Q rm o U')
/-- .. wide; the places of ss are no booked String's -/
def MetW (l : Launch) (Z : State) (EL : List (String × Nat)) (y : MethodName) (bytes : ByteArray) (maxL : Nat) (ret : Option FieldType) (ws : List Jvm.Cond) (rm : Room) (as' : Array Value) (ss : List Addr) (h0 : Heap) (Q : Option Value → Heap → List Loc → Prop) : Prop :=
  MetFree l y (head1 (Jvm.Cond.code y bytes maxL ret :: ws) rm) (fun a U => a = as' ∧ Z.Warmed39 U.vm ∧ U.heap = h0 ∧ CHv Z EL U.vm h0 ∧ ∀ x ∈ ss, Safe Z EL U.vm h0 x) (fun _ _ _ _ _ => True) (fun _ U o U' => GW U Z EL h0 Q rm o U')
theorem MetN.mk {ls0 : Array Slot} (wl : List Addr) (hp : plainFor y = true) (hent : ∀ m, entryFrame m as' maxL = mkF m 0 ls0 [])
    (body : ∀ p e s m below meth c s₁, c.maxLocals = maxL → meth.sig.returnType = ret → meth.name = y.name → meth.locks = false → Pos p l e rm s m as' below meth c bytes Z [] wl h0 y.cls s.vm s₁ [] 0 0 h0 → Go p.tables e below (GN s Q rm) (s₁.setTop (mkF m 0 ls0 []))) : MetN l Z y bytes maxL ret ws rm as' h0 Q := by
  refine MetFree.of_bodySF hp hisR ?_
  intro p e s m args below meth c s₁ Bd hml hP hK
  obtain ⟨rfl, hZ, hh⟩ := hP
  have hown : s.vm.findClass y.cls = some m.cls := findClass_of_methodNamed Bd.named
  have hnm := (name_of_methodNamed Bd.named Bd.method).1
  have e0 : s₁.heap = h0 := by rw [← hh, Bd.state]; rfl
  have X0 : Stand p l e rm s m args below meth c s₁ [] 0 0 := Stand.of_body Bd
  have hC : CHv Z [] s.vm h0 := fun _ q => nomatch q
  rw [hent]
  exact body p e s m below meth c s₁ hml Bd.returns hnm Bd.notSynchronized ⟨X0, e0, ⟨0, (State.WarmedH.refl s).since _, Nat.zero_le _⟩, hZ, hown, Frw.nil, hh, CHr.refl hC, Bd.exec, Bd.bytes⟩
theorem MetW.mk {ls0 : Array Slot} {ss : List Addr} (wl : List Addr) (hp : plainFor y = true) (hent : ∀ m, entryFrame m as' maxL = mkF m 0 ls0 [])
    (body : ∀ p e s m below meth c s₁, c.maxLocals = maxL → meth.sig.returnType = ret → meth.name = y.name → meth.locks = false → (∀ x ∈ ss, Safe Z EL s.vm h0 x) → Pos p l e rm s m as' below meth c bytes Z EL wl h0 y.cls s.vm s₁ [] 0 0 h0 → Go p.tables e below (GW s Z EL h0 Q rm) (s₁.setTop (mkF m 0 ls0 []))) : MetW l Z EL y bytes maxL ret ws rm as' ss h0 Q := by
  refine MetFree.of_bodySF hp hisR ?_
  intro p e s m args below meth c s₁ Bd hml hP hK
  obtain ⟨rfl, hZ, hh, hC, hss⟩ := hP
  have hown : s.vm.findClass y.cls = some m.cls := findClass_of_methodNamed Bd.named
  have hnm := (name_of_methodNamed Bd.named Bd.method).1
  have e0 : s₁.heap = h0 := by rw [← hh, Bd.state]; rfl
  have X0 : Stand p l e rm s m args below meth c s₁ [] 0 0 := Stand.of_body Bd
  rw [hent]
  exact body p e s m below meth c s₁ hml Bd.returns hnm Bd.notSynchronized hss ⟨X0, e0, ⟨0, (State.WarmedH.refl s).since _, Nat.zero_le _⟩, hZ, hown, Frw.nil, hh, CHr.refl hC, Bd.exec, Bd.bytes⟩
def MetNK (l : Launch) (Z : State) (y : MethodName) (bytes : ByteArray) (maxL : Nat) (ret : Option FieldType) (ws : List Jvm.Cond) (rm : Room) (as' : Array Value) (h0 : Heap) (Q : Option Value → Heap → List Loc → Prop) : Prop :=
  MetFree l y (head1 (Jvm.Cond.code y bytes maxL ret :: ws) rm) (fun a U => a = as' ∧ Z.Warmed39 U.vm ∧ U.heap = h0) KK (fun _ U o U' => GN U Q rm o U')
def MetWK (l : Launch) (Z : State) (EL : List (String × Nat)) (y : MethodName) (bytes : ByteArray) (maxL : Nat) (ret : Option FieldType) (ws : List Jvm.Cond) (rm : Room) (as' : Array Value) (ss : List Addr) (h0 : Heap) (Q : Option Value → Heap → List Loc → Prop) : Prop :=
  MetFree l y (head1 (Jvm.Cond.code y bytes maxL ret :: ws) rm) (fun a U => a = as' ∧ Z.Warmed39 U.vm ∧ U.heap = h0 ∧ CHv Z EL U.vm h0 ∧ ∀ x ∈ ss, Safe Z EL U.vm h0 x) KK (fun _ U o U' => GW U Z EL h0 Q rm o U')
theorem MetNK.mk {ls0 : Array Slot} (wl : List Addr) (hp : plainFor y = true) (hent : ∀ m, entryFrame m as' maxL = mkF m 0 ls0 [])
    (body : ∀ p e s m below meth c s₁, c.maxLocals = maxL → meth.sig.returnType = ret → meth.name = y.name → meth.locks = false → s.vm.MethodsKnown → s.vm.FramesKnown below → Pos p l e rm s m as' below meth c bytes Z [] wl h0 y.cls s.vm s₁ [] 0 0 h0 → Go p.tables e below (GN s Q rm) (s₁.setTop (mkF m 0 ls0 []))) : MetNK l Z y bytes maxL ret ws rm as' h0 Q := by
  refine MetFree.of_bodySF hp hisR ?_
  intro p e s m args below meth c s₁ Bd hml hP hK
  obtain ⟨rfl, hZ, hh⟩ := hP
  have hown : s.vm.findClass y.cls = some m.cls := findClass_of_methodNamed Bd.named
  have hnm := (name_of_methodNamed Bd.named Bd.method).1
  have e0 : s₁.heap = h0 := by rw [← hh, Bd.state]; rfl
  have X0 : Stand p l e rm s m args below meth c s₁ [] 0 0 := Stand.of_body Bd
  have hC : CHv Z [] s.vm h0 := fun _ q => nomatch q
  rw [hent]
  exact body p e s m below meth c s₁ hml Bd.returns hnm Bd.notSynchronized hK.1 hK.2 ⟨X0, e0, ⟨0, (State.WarmedH.refl s).since _, Nat.zero_le _⟩, hZ, hown, Frw.nil, hh, CHr.refl hC, Bd.exec, Bd.bytes⟩
theorem MetWK.mk {ls0 : Array Slot} {ss : List Addr} (wl : List Addr) (hp : plainFor y = true) (hent : ∀ m, entryFrame m as' maxL = mkF m 0 ls0 [])
    (body : ∀ p e s m below meth c s₁, c.maxLocals = maxL → meth.sig.returnType = ret → meth.name = y.name → meth.locks = false → s.vm.MethodsKnown → s.vm.FramesKnown below → (∀ x ∈ ss, Safe Z EL s.vm h0 x) → Pos p l e rm s m as' below meth c bytes Z EL wl h0 y.cls s.vm s₁ [] 0 0 h0 → Go p.tables e below (GW s Z EL h0 Q rm) (s₁.setTop (mkF m 0 ls0 []))) : MetWK l Z EL y bytes maxL ret ws rm as' ss h0 Q := by
  refine MetFree.of_bodySF hp hisR ?_
  intro p e s m args below meth c s₁ Bd hml hP hK
  obtain ⟨rfl, hZ, hh, hC, hss⟩ := hP
  have hown : s.vm.findClass y.cls = some m.cls := findClass_of_methodNamed Bd.named
  have hnm := (name_of_methodNamed Bd.named Bd.method).1
  have e0 : s₁.heap = h0 := by rw [← hh, Bd.state]; rfl
  have X0 : Stand p l e rm s m args below meth c s₁ [] 0 0 := Stand.of_body Bd
  rw [hent]
  exact body p e s m below meth c s₁ hml Bd.returns hnm Bd.notSynchronized hK.1 hK.2 hss ⟨X0, e0, ⟨0, (State.WarmedH.refl s).since _, Nat.zero_le _⟩, hZ, hown, Frw.nil, hh, CHr.refl hC, Bd.exec, Bd.bytes⟩
variable {p : Program} {e : Env} {R : Room} {s : State} {args : Array Value} {below : List Frame} {vm0 : Vm} {len W : Nat} {m : MethodId} {meth : Method} {c : Code} {code : ByteArray} {wl : List Addr} {hS h : Heap} {own : String} {T : State} {locs : List Loc} {cells slots : Nat}
/-- a narrow contract pays a call -/
theorem MetN.pay (hM : MetN l Z y bytes maxL ret [] rm as' h Q) (P : Pos p l e R s m args below meth c code Z EL wl hS own vm0 T locs cells slots h) (wc : (Jvm.Cond.code y bytes maxL ret).before a0 Z = true) (wz : (Jvm.Cond.initialized y.cls).before a0 Z = true) (hf : rm.frames + 1 ≤ R.frames) (hl : W + (maxL + 11) + rm.locals ≤ R.locals) :
    Back l R p e below (s.setVm vm0) args y len W (fun A a => a = as' ∧ A.U.heap = h ∧ A.cells + rm.cells ≤ R.cells ∧ A.slots + rm.slots ≤ R.slots) (fun A _ v B => ∃ L, Q v B.U.heap L ∧ B.locs = A.locs ++ L ∧ B.cells = A.cells + rm.cells ∧ B.slots = A.slots + rm.slots) :=
  backOf hM P.hz wc wz hf hl
theorem MetNK.pay (hM : MetNK l Z y bytes maxL ret [] rm as' h Q) (P : Pos p l e R s m args below meth c code Z EL wl hS own vm0 T locs cells slots h) (hTK : s.vm.MethodsKnown) (hB : s.vm.FramesKnown below) (wc : (Jvm.Cond.code y bytes maxL ret).before a0 Z = true) (wz : (Jvm.Cond.initialized y.cls).before a0 Z = true) (hf : rm.frames + 1 ≤ R.frames) (hl : W + (maxL + 11) + rm.locals ≤ R.locals) :
    Back l R p e below (s.setVm vm0) args y len W (fun A a => a = as' ∧ A.U.heap = h ∧ A.cells + rm.cells ≤ R.cells ∧ A.slots + rm.slots ≤ R.slots) (fun A _ v B => ∃ L, Q v B.U.heap L ∧ B.locs = A.locs ++ L ∧ B.cells = A.cells + rm.cells ∧ B.slots = A.slots + rm.slots) :=
  backOfKL hM P.hz wc wz hf hl (Vm.MethodsKnown.alikeC P.alS hTK) (Vm.FramesKnown.alikeC P.alS hB)
/-- a wide one -/
theorem MetW.pay {ss : List Addr} (hM : MetW l Z EL y bytes maxL ret [] rm as' ss h Q) (P : Pos p l e R s m args below meth c code Z EL wl hS own vm0 T locs cells slots h) (hEL : EW Z a0 EL) (hss : ∀ x ∈ ss, x < h.size ∧ Safe Z EL vm0 h x) (wc : (Jvm.Cond.code y bytes maxL ret).before a0 Z = true) (wz : (Jvm.Cond.initialized y.cls).before a0 Z = true) (hf : rm.frames + 1 ≤ R.frames) (hl : W + (maxL + 11) + rm.locals ≤ R.locals) :
    BackS l R p e below (s.setVm vm0) args y len W (fun A a => a = as' ∧ A.U.heap = h ∧ A.cells + rm.cells ≤ R.cells ∧ A.slots + rm.slots ≤ R.slots) (fun A _ v B => ∃ L, Q v B.U.heap L ∧ B.locs = A.locs ++ L ∧ B.cells = A.cells + rm.cells ∧ B.slots = A.slots + rm.slots ∧ CHr Z EL vm0 h B.U.vm B.U.heap) :=
  BackS.of_freeW (bytes := bytes) (maxL := maxL) (ret := ret) (E := fun _ first o t L k n => k = rm.cells ∧ n = rm.slots ∧ (∃ v, o = .returned v ∧ Q v t.heap L) ∧ CHr Z EL first.vm h t.vm t.heap) hM hf hl
    (fun m meth c A a Y hp => have hU : Z.Warmed39 A.U.vm := wtrans (s := s.setVm vm0) P.hz Y.warmed
      ⟨by show (Jvm.Cond.and _ .tt).before a A.U = true; rw [Jvm.Cond.before_and, mv hU wc]; rfl, mv hU wc, mv hU wz, hp.2.2.1, hp.2.2.2⟩)
    (fun m meth c A a g mk Y hp => ⟨hp.1, wtrans (s := s.setVm vm0) P.hz Y.warmed, hp.2.1, (CHv.at Y P.hz hEL P.chv).1, fun x hx => (CHv.at Y P.hz hEL P.chv).safe (hss x hx).1 (hss x hx).2⟩) (fun _ _ _ _ _ _ _ _ _ => trivial)
    (fun _ _ _ _ ⟨v, L, h1, h2, h3, h4⟩ => ⟨L, _, _, h4, rfl, rfl, ⟨v, h1, h2⟩, h3⟩)
    (fun m meth c A a g mk v t L k n Y hp _ _ ⟨e1, e2, ⟨v', e3, e4⟩, e5⟩ => by
      cases e3; subst e1 e2
      exact ⟨L, e4, rfl, rfl, rfl, (CHv.at Y P.hz hEL P.chv).trans e5⟩)
end Met
/-- what a body that touches nothing says -/
def Pure (v : Option Value) (h0 : Heap) (u : Option Value) (h : Heap) (L : List Loc) : Prop := u = v ∧ L = [] ∧ h0 = h
theorem Pure.ok {v : Option Value} {h0 : Heap} {Z : State} {EL : List (String × Nat)} {vm0 : Vm} {wl : List Addr} {n : Nat} (H : CHv Z EL vm0 h0) : ∀ u h L, Pure v h0 u h L → Frw wl n L ∧ CHr Z EL vm0 h0 vm0 h := fun u h L q => by
  obtain ⟨-, rfl, rfl⟩ := q; exact ⟨Frw.nil, CHr.refl H⟩
theorem ns_root {Z : State} {a0 : Array Value} {O K : String} {n : Nat} (w : (Jvm.Cond.noSuperclass O).before a0 Z = true) (wk : (Jvm.Cond.instantiable K n).before a0 Z = true) (hn : O ≠ K) : NS Z O K := by
  obtain ⟨c, k, h1, h2, h3, -, -⟩ := Cond.noSuperclass_spec w
  obtain ⟨t, kt, g1, -⟩ := Cond.instantiable_spec wk
  have ne := ids_ne h1 g1 hn
  refine ⟨c, t, h1, g1, fun fuel => ?_⟩
  cases fuel with
  | zero => rfl
  | succ f => simp [Vm.isSubclassAux, ne, h2, h3]
theorem ns_no {Z : State} {a0 : Array Value} {C S K : String} {n : Nat} (w : (Jvm.Cond.superclass C S).before a0 Z = true) (wk : (Jvm.Cond.instantiable K n).before a0 Z = true) (N : NS Z C K) (hn : C ≠ K) : ∃ c t, Z.vm.findClass C = some c ∧ Z.vm.findClass K = some t ∧ Z.vm.assignable c t = false := by
  obtain ⟨c, t, h0, g0, n3⟩ := N
  obtain ⟨p, k, kp, h1, h2, h3, h4, h5, -, h7⟩ := Cond.superclass_spec h0 w
  obtain ⟨t', k', g1, g2, g5, g6, -⟩ := Cond.instantiable_spec wk
  cases g0.symm.trans g1
  have g7 : k'.isInterface = false := by cases q : k'.isInterface <;> simp [q] at g6 ⊢
  have ne := ids_ne h0 g0 hn
  refine ⟨c, t, h0, g0, ?_⟩
  show Z.vm.assignableAux (255 + 1) c t = false
  simp [Vm.assignableAux, ne, h2, g2, h5, g5, g7, Vm.isSubclass, n3]
theorem Ext.keepNew {h0 h h' : Heap} {wl : List Addr} (E : Ext h0 h) (K : Keep h h' wl) (q : ∀ x ∈ wl, h0.size ≤ x) : Ext h0 h' := ⟨Nat.le_trans E.1 K.1, fun a c r => K.2.1 a c (E.2 a c r) fun z => absurd (Array.getElem?_eq_some_iff.mp r).1 (Nat.not_lt.mpr (q a z))⟩
theorem Ext.trans {h0 h h' : Heap} (E : Ext h0 h) (E' : Ext h h') : Ext h0 h' := ⟨Nat.le_trans E.1 E'.1, fun a c r => E'.2 a c (E.2 a c r)⟩
theorem Ext.refl (h : Heap) : Ext h h := ⟨Nat.le_refl _, fun _ _ r => r⟩
theorem Ext.wrNew {h0 h h' : Heap} {a : Addr} {sl : Nat} {v : Value} (E : Ext h0 h) (Wq : Wr h h' a sl v) (q : h0.size ≤ a) : Ext h0 h' := Ext.keepNew E (Keep.of_wr Wq) (allS q all0)
theorem Ext.toKeep {h h' : Heap} (E : Ext h h') (wl : List Addr) : Keep h h' wl := (Keep.refl h wl).ext E
end W
end Jvm.Pilot.@@N@@
/- laws to paste: Road.backV, Road.codOf (cut by pick.py; bodies as the Statement names them) -/
namespace Jvm.Pilot.@@N@@
namespace StrChars
open Jvm Sem ClassFile Op Lib Jvm.Stand Jvm.Free.XT Jvm.Free.ALB Jvm.Free.JM Jvm.Free
open Jvm.Lib.Cold (StaticIs)
/-- a char array whose places are chars -/
def Ch (a : Addr) (A : Cell) (U : State) : Prop := Arr .char a A U ∧ Typed .char A
theorem Ch.mv {a : Addr} {A : Cell} {U U' : State} (h : Ch a A U) (hal : U.vm.Alike U'.vm) (hh : U'.heap = U.heap) : Ch a A U' := ⟨h.1.mv hal hh, h.2⟩
theorem Ch.keep {a : Addr} {A : Cell} {U U' : State} (h : Ch a A U) (hal : U.vm.Alike U'.vm) (hk : U'.heap[a]? = some A) : Ch a A U' := ⟨h.1.keep hal hk, h.2⟩
/-- what place i of a char[]'s cell holds -/
def cv (A : Cell) (i : Nat) : Int32 := match A.slots[i]? with | some (.int x) => x | _ => 0
theorem Ch.get {a : Addr} {A : Cell} {U : State} (h : Ch a A U) {i : Nat} (hi : i < A.slots.size) : A.slots[i]? = some (.int (cv A i)) := by
  have e := Array.getElem?_eq_getElem hi
  have f := h.2 i _ e
  unfold cv; rw [e]
  generalize A.slots[i] = v at f
  cases v <;> simp [fits] at f ⊢
/-- the byte that i2b leaves of a char -/
def lo8 (x : Int32) : Int32 := x.toInt8.toInt32
theorem fits_lo8 (y : Int32) : fits .byte (.int (lo8 y)) = true := by
  have h1 := y.toInt8.le_toInt
  have h2 := y.toInt8.toInt_lt
  simp only [lo8, fits, Bool.and_eq_true, decide_eq_true_eq, Int32.le_iff_toInt_le, Int8.toInt_toInt32, show (-128 : Int32).toInt = -128 from by decide, show (127 : Int32).toInt = 127 from by decide]
  omega
/-- A' is A but that each place j of lo .. hi - 1 holds f j -/
def Laid (A A' : Cell) (lo hi : Nat) (f : Nat → Value) : Prop := A'.cls = A.cls ∧ A'.vm = A.vm ∧ A'.slots.size = A.slots.size ∧ ∀ i, A'.slots[i]? = if lo ≤ i ∧ i < hi then some (f i) else A.slots[i]?
theorem Laid.zero (A : Cell) (lo : Nat) (f : Nat → Value) : Laid A A lo (lo + 0) f := ⟨rfl, rfl, rfl, fun i => by rw [if_neg (by omega)]⟩
theorem Laid.step {A Ak : Cell} {lo k : Nat} {f : Nat → Value} {v : Value} (h : Laid A Ak lo k f) (hlo : lo ≤ k) (hk : k < Ak.slots.size) (hv : v = f k) : Laid A (Ak.setSlot k v) lo (k + 1) f := by
  refine ⟨h.1, h.2.1, by simpa [Cell.setSlot] using h.2.2.1, fun i => ?_⟩
  by_cases e : k = i
  · subst e; rw [Cell.slots_setSlot_self v hk, if_pos (by omega), hv]
  · rw [Cell.slots_setSlot_ne v e, h.2.2.2 i]
    by_cases q : lo ≤ i ∧ i < k
    · rw [if_pos q, if_pos (by omega)]
    · rw [if_neg q, if_neg (by omega)]
def U16 : String := "java/lang/StringUTF16"
namespace Cmp5
def yN : MethodName := ⟨"java/lang/StringUTF16", "compress", "([CI[BII)I"⟩
abbrev yB : ByteArray := jdk_52_method_21_code
theorem d0 : decode yB 0 = .ok (.iconst 0, 1) := by decide +kernel
theorem d1 : decode yB 1 = .ok (.istore 5, 2) := by decide +kernel
theorem d3 : decode yB 3 = .ok (.iload 5, 2) := by decide +kernel
theorem d5 : decode yB 5 = .ok (.iload 4, 2) := by decide +kernel
theorem d7 : decode yB 7 = .ok (.if_icmp (.ge) 37, 3) := by decide +kernel
theorem d10 : decode yB 10 = .ok (.aload_n 0, 1) := by decide +kernel
theorem d11 : decode yB 11 = .ok (.iload_n 1, 1) := by decide +kernel
theorem d12 : decode yB 12 = .ok (.caload, 1) := by decide +kernel
theorem d13 : decode yB 13 = .ok (.istore 6, 2) := by decide +kernel
theorem d15 : decode yB 15 = .ok (.iload 6, 2) := by decide +kernel
theorem d17 : decode yB 17 = .ok (.sipush 255, 3) := by decide +kernel
theorem d20 : decode yB 20 = .ok (.if_icmp (.le) 6, 3) := by decide +kernel
theorem d26 : decode yB 26 = .ok (.aload_n 2, 1) := by decide +kernel
theorem d27 : decode yB 27 = .ok (.iload_n 3, 1) := by decide +kernel
theorem d28 : decode yB 28 = .ok (.iload 6, 2) := by decide +kernel
theorem d30 : decode yB 30 = .ok (.i2b, 1) := by decide +kernel
theorem d31 : decode yB 31 = .ok (.bastore, 1) := by decide +kernel
theorem d32 : decode yB 32 = .ok (.iinc 1 1, 3) := by decide +kernel
theorem d35 : decode yB 35 = .ok (.iinc 3 1, 3) := by decide +kernel
theorem d38 : decode yB 38 = .ok (.iinc 5 1, 3) := by decide +kernel
theorem d41 : decode yB 41 = .ok (.goto (-38), 3) := by decide +kernel
theorem d44 : decode yB 44 = .ok (.iload 4, 2) := by decide +kernel
theorem d46 : decode yB 46 = .ok (.ireturn, 1) := by decide +kernel
def site : List Cond := []
def tab : Cond := tabOf yN yB 7 (some .int) site
def P (b : Addr) (A : Cell) (d : Addr) (B : Cell) (o q len : Nat) (args : Array Value) (s : State) : Prop := args = #[.ref b, .int (Int32.ofNat o), .ref d, .int (Int32.ofNat q), .int (Int32.ofNat len)] ∧ Ch b A s ∧ Arr .byte d B s ∧ b ≠ d ∧ o + len ≤ A.slots.size ∧ q + len ≤ B.slots.size ∧ ∀ i, i < len → ¬ 255 < cv A (o + i)
def E (b : Addr) (A : Cell) (d : Addr) (B : Cell) (o q len : Nat) (r : Option Value) (s u : State) : Prop := r = some (.int (Int32.ofNat len)) ∧ ∃ B', Put d B' s u ∧ Laid B B' q (q + len) (fun j => Value.int (lo8 (cv A (o + (j - q)))))
/-- no char of the range above 255: len; the places written hold each char's low byte -/
theorem law (l : Launch) (b : Addr) (A : Cell) (d : Addr) (B : Cell) (o q len : Nat) : Law l yN 5 5 0 0 yB 7 (some .int) site (P b A d B o q len) (E b A d B o q len) (copyLocs d q len) 0 0 := by
  refine Law.of_walk (plainFor_of_name (by decide +kernel)) (by decide +kernel) (by decide +kernel) (by decide) (fun _ _ h => by rw [h.1]; rfl) (fun _ U U' hal hh h => ⟨h.1, h.2.1.mv hal hh, h.2.2.1.mv hal hh, h.2.2.2⟩) (fun r U U' V V' h1 hal h2 h => ⟨h.1, h.2.elim fun B' q => ⟨B', q.1.mv h1 h2, q.2⟩⟩) ?_
  intro p e s m args below meth c s₁ X0 hexec hbytes hml hret hlk hnm hown hh0 W hP
  obtain ⟨rfl, hA, hB, hne, l1, l2, hp⟩ := hP
  have c1 : Steps p.tables e below (s₁.setTop (entryFrame m #[.ref b, .int (Int32.ofNat o), .ref d, .int (Int32.ofNat q), .int (Int32.ofNat len)] 7)) (s₁.setTop (mkF m 0 #[.val (.ref b), .val (.int (Int32.ofNat o)), .val (.ref d), .val (.int (Int32.ofNat q)), .val (.int (Int32.ofNat len)), .unset, .unset] [])) := entry rfl
  have hA0 := hA.1.mv X0.warmed.alike hh0
  have hB0 := hB.mv X0.warmed.alike hh0
  have a31 := hA.1.2.2.2
  have c2 : Steps p.tables e below (s₁.setTop (entryFrame m #[.ref b, .int (Int32.ofNat o), .ref d, .int (Int32.ofNat q), .int (Int32.ofNat len)] 7)) (s₁.setTop (mkF m 3 #[.val (.ref b), .val (.int (Int32.ofNat o)), .val (.ref d), .val (.int (Int32.ofNat q)), .val (.int (Int32.ofNat len)), .val (.int 0), .unset] [])) := c1.trans (by
    refine iconstV X0.here hexec rfl 0 (hb hbytes d0) (by decide) ?_
    refine XS.istore X0.here hexec rfl (hb hbytes d1) rfl rfl ?_
    exact Steps.refl _)
  have loop : ∀ (r i : Nat), i + r = len → ∀ (z : Slot), (z = .unset ∨ ∃ w, z = .val w ∧ w.category = 1) → ∀ (Tl : State) (Bk : Cell), Stand p l e { frames := 0, locals := 0, cells := 0, slots := 0 } s m #[.ref b, .int (Int32.ofNat o), .ref d, .int (Int32.ofNat q), .int (Int32.ofNat len)] below meth c Tl ([] ++ copyLocs d q i) 0 0 → Put d Bk s₁ Tl → Laid B Bk q (q + i) (fun j => Value.int (lo8 (cv A (o + (j - q))))) →
      Steps p.tables e below (s₁.setTop (entryFrame m #[.ref b, .int (Int32.ofNat o), .ref d, .int (Int32.ofNat q), .int (Int32.ofNat len)] 7)) (Tl.setTop (mkF m 3 #[.val (.ref b), .val (.int (Int32.ofNat (o + i))), .val (.ref d), .val (.int (Int32.ofNat (q + i))), .val (.int (Int32.ofNat len)), .val (.int (Int32.ofNat i)), z] [])) → ∃ (T' : State) (B' : Cell) (z' : Slot), Stand p l e { frames := 0, locals := 0, cells := 0, slots := 0 } s m #[.ref b, .int (Int32.ofNat o), .ref d, .int (Int32.ofNat q), .int (Int32.ofNat len)] below meth c T' ([] ++ copyLocs d q len) 0 0 ∧ Put d B' s₁ T' ∧ Laid B B' q (q + len) (fun j => Value.int (lo8 (cv A (o + (j - q))))) ∧
      Steps p.tables e below (s₁.setTop (entryFrame m #[.ref b, .int (Int32.ofNat o), .ref d, .int (Int32.ofNat q), .int (Int32.ofNat len)] 7)) (T'.setTop (mkF m 3 #[.val (.ref b), .val (.int (Int32.ofNat (o + len))), .val (.ref d), .val (.int (Int32.ofNat (q + len))), .val (.int (Int32.ofNat len)), .val (.int (Int32.ofNat len)), z'] [])) := by
    intro r
    induction r with
    | zero =>
      intro i hi z hz Tl Bk Xl pl fl cl
      have hil : i = len := by omega
      rw [hil] at Xl fl cl
      exact ⟨Tl, Bk, z, Xl, pl, fl, cl⟩
    | succ r ih =>
      intro i hi z hz Tl Bk Xl pl fl cl
      have all := X0.warmed.alike.symm.trans Xl.warmed.alike
      have hAl := hA0.keep all (pl.other hne hA0.1)
      have hBk := hB0.like all pl.1 fl.1 fl.2.1 fl.2.2.1
      have hlt : q + i < Bk.slots.size := by rw [fl.2.2.1]; omega
      have c3 : Steps p.tables e below (s₁.setTop (entryFrame m #[.ref b, .int (Int32.ofNat o), .ref d, .int (Int32.ofNat q), .int (Int32.ofNat len)] 7)) (Tl.setTop (mkF m 12 #[.val (.ref b), .val (.int (Int32.ofNat (o + i))), .val (.ref d), .val (.int (Int32.ofNat (q + i))), .val (.int (Int32.ofNat len)), .val (.int (Int32.ofNat i)), z] [.int (Int32.ofNat (o + i)), .ref b])) := cl.trans (by
        refine XS.iload Xl.here hexec rfl (hb hbytes d3) rfl ?_
        refine XS.iload Xl.here hexec rfl (hb hbytes d5) rfl ?_
        refine XS.icmpNo Xl.here hexec rfl (hb hbytes d7) rfl (ii_ge_f (lt32 (by omega) (by omega))) ?_
        refine XS.aloadN Xl.here hexec rfl (hb hbytes d10) rfl rfl ?_
        refine XS.iloadN Xl.here hexec rfl (hb hbytes d11) rfl ?_
        exact Steps.refl _)
      have c4 : Steps p.tables e below (s₁.setTop (entryFrame m #[.ref b, .int (Int32.ofNat o), .ref d, .int (Int32.ofNat q), .int (Int32.ofNat len)] 7)) (Tl.setTop (mkF m 13 #[.val (.ref b), .val (.int (Int32.ofNat (o + i))), .val (.ref d), .val (.int (Int32.ofNat (q + i))), .val (.int (Int32.ofNat len)), .val (.int (Int32.ofNat i)), z] [.int (cv A (o + i))])) := c3.trans (by
        refine Xl.aget hexec hAl rfl (hA.get (i := o + i) (by omega)) rfl rfl (hb hbytes d12) ?_
        exact Steps.refl _)
      have c5 : Steps p.tables e below (s₁.setTop (entryFrame m #[.ref b, .int (Int32.ofNat o), .ref d, .int (Int32.ofNat q), .int (Int32.ofNat len)] 7)) (Tl.setTop (mkF m 15 #[.val (.ref b), .val (.int (Int32.ofNat (o + i))), .val (.ref d), .val (.int (Int32.ofNat (q + i))), .val (.int (Int32.ofNat len)), .val (.int (Int32.ofNat i)), .val (.int (cv A (o + i)))] [])) := c4.trans (by
        refine XS.istoreS Xl.here hexec rfl (hb hbytes d13) rfl rfl hz ?_
        exact Steps.refl _)
      have c6 : Steps p.tables e below (s₁.setTop (entryFrame m #[.ref b, .int (Int32.ofNat o), .ref d, .int (Int32.ofNat q), .int (Int32.ofNat len)] 7)) (Tl.setTop (mkF m 31 #[.val (.ref b), .val (.int (Int32.ofNat (o + i))), .val (.ref d), .val (.int (Int32.ofNat (q + i))), .val (.int (Int32.ofNat len)), .val (.int (Int32.ofNat i)), .val (.int (cv A (o + i)))] [.int (lo8 (cv A (o + i))), .int (Int32.ofNat (q + i)), .ref d])) := c5.trans (by
        refine XS.iload Xl.here hexec rfl (hb hbytes d15) rfl ?_
        refine sipushV Xl.here hexec rfl 255 (hb hbytes d17) (by decide) ?_
        refine XS.icmpYes Xl.here hexec rfl (pc0 := 20) rfl (hb hbytes d20) rfl (ii_le_t (hp i (by omega))) (by decide) rfl ?_
        refine XS.aloadN Xl.here hexec rfl (hb hbytes d26) rfl rfl ?_
        refine XS.iloadN Xl.here hexec rfl (hb hbytes d27) rfl ?_
        refine XS.iload Xl.here hexec rfl (hb hbytes d28) rfl ?_
        refine i2b Xl.here hexec rfl (hb hbytes d30) rfl ?_
        exact Steps.refl _)
      obtain ⟨T7, X7, p7, st7⟩ := Xl.aput hexec hBk rfl hlt rfl (fits_lo8 (cv A (o + i))) (g := (mkF m 31 #[.val (.ref b), .val (.int (Int32.ofNat (o + i))), .val (.ref d), .val (.int (Int32.ofNat (q + i))), .val (.int (Int32.ofNat len)), .val (.int (Int32.ofNat i)), .val (.int (cv A (o + i)))] [.int (lo8 (cv A (o + i))), .int (Int32.ofNat (q + i)), .ref d])) rfl (rest := []) rfl (hb hbytes d31)
      have c8 : Steps p.tables e below (s₁.setTop (entryFrame m #[.ref b, .int (Int32.ofNat o), .ref d, .int (Int32.ofNat q), .int (Int32.ofNat len)] 7)) (T7.setTop (mkF m 32 #[.val (.ref b), .val (.int (Int32.ofNat (o + i))), .val (.ref d), .val (.int (Int32.ofNat (q + i))), .val (.int (Int32.ofNat len)), .val (.int (Int32.ofNat i)), .val (.int (cv A (o + i)))] [])) := c6.trans (st7 _ (Steps.refl _))
      have c9 : Steps p.tables e below (s₁.setTop (entryFrame m #[.ref b, .int (Int32.ofNat o), .ref d, .int (Int32.ofNat q), .int (Int32.ofNat len)] 7)) (T7.setTop (mkF m 3 #[.val (.ref b), .val (.int (Int32.ofNat (o + i) + 1)), .val (.ref d), .val (.int (Int32.ofNat (q + i) + 1)), .val (.int (Int32.ofNat len)), .val (.int (Int32.ofNat i + 1)), .val (.int (cv A (o + i)))] [])) := c8.trans (by
        refine iincV X7.here hexec rfl 1 (hb hbytes d32) (by decide) rfl rfl ?_
        refine iincV X7.here hexec rfl 1 (hb hbytes d35) (by decide) rfl rfl ?_
        refine iincV X7.here hexec rfl 1 (hb hbytes d38) (by decide) rfl rfl ?_
        refine XS.goto X7.here hexec rfl (pc0 := 41) rfl (hb hbytes d41) (by decide) rfl ?_
        exact Steps.refl _)
      have c10 : Steps p.tables e below (s₁.setTop (entryFrame m #[.ref b, .int (Int32.ofNat o), .ref d, .int (Int32.ofNat q), .int (Int32.ofNat len)] 7)) (T7.setTop (mkF m 3 #[.val (.ref b), .val (.int (Int32.ofNat (o + (i + 1)))), .val (.ref d), .val (.int (Int32.ofNat (q + (i + 1)))), .val (.int (Int32.ofNat len)), .val (.int (Int32.ofNat (i + 1))), .val (.int (cv A (o + i)))] [])) := by
        have := c9
        rw [succ32, succ32, succ32] at this
        exact this
      exact ih (i + 1) (by omega) _ (Or.inr ⟨_, rfl, rfl⟩) T7 _ (by rw [copyLocs_step, ← List.append_assoc]; exact X7) (pl.trans p7) (fl.step (by omega) hlt (by simp)) c10
  obtain ⟨T9, B9, z9, X9, p9, f9, g9⟩ := loop len 0 (by omega) .unset (Or.inl rfl) s₁ B (by simpa [copyLocs] using X0) ⟨hB0.1, fun _ _ => rfl, rfl⟩ (Laid.zero _ _ _) c2
  have c11 : Steps p.tables e below (s₁.setTop (entryFrame m #[.ref b, .int (Int32.ofNat o), .ref d, .int (Int32.ofNat q), .int (Int32.ofNat len)] 7)) (T9.setTop (mkF m 46 #[.val (.ref b), .val (.int (Int32.ofNat (o + len))), .val (.ref d), .val (.int (Int32.ofNat (q + len))), .val (.int (Int32.ofNat len)), .val (.int (Int32.ofNat len)), z9] [.int (Int32.ofNat len)])) := g9.trans (by
    refine XS.iload X9.here hexec rfl (hb hbytes d3) rfl ?_
    refine XS.iload X9.here hexec rfl (hb hbytes d5) rfl ?_
    refine XS.icmpYes X9.here hexec rfl (pc0 := 7) rfl (hb hbytes d7) rfl (ii_ge_t (nlt32 (by omega) (Nat.le_refl _))) (by decide) rfl ?_
    refine XS.iload X9.here hexec rfl (hb hbytes d44) rfl ?_
    exact Steps.refl _)
  exact ⟨T9, some (.int (Int32.ofNat len)), _, _, _, X9, by simp, rfl, rfl, (fun h => by cases h), ⟨rfl, B9, p9.from hh0, f9⟩, fun fs hl => c11.trans (X9.ireturnOut hexec hret rfl (Or.inl rfl) (hb hbytes d46) hl)⟩
end Cmp5
namespace Cmp3
def yN : MethodName := ⟨"java/lang/StringUTF16", "compress", "([CII)[B"⟩
abbrev yB : ByteArray := jdk_52_method_16_code
theorem d0 : decode yB 0 = .ok (.iload_n 2, 1) := by decide +kernel
theorem d1 : decode yB 1 = .ok (.newarray .byte, 2) := by decide +kernel
theorem d3 : decode yB 3 = .ok (.astore_n 3, 1) := by decide +kernel
theorem d4 : decode yB 4 = .ok (.aload_n 0, 1) := by decide +kernel
theorem d5 : decode yB 5 = .ok (.iload_n 1, 1) := by decide +kernel
theorem d6 : decode yB 6 = .ok (.aload_n 3, 1) := by decide +kernel
theorem d7 : decode yB 7 = .ok (.iconst 0, 1) := by decide +kernel
theorem d8 : decode yB 8 = .ok (.iload_n 2, 1) := by decide +kernel
theorem d9 : decode yB 9 = .ok (.invokestatic 115, 3) := by decide +kernel
theorem d12 : decode yB 12 = .ok (.istore 4, 2) := by decide +kernel
theorem d14 : decode yB 14 = .ok (.iload 4, 2) := by decide +kernel
theorem d16 : decode yB 16 = .ok (.iload_n 2, 1) := by decide +kernel
theorem d17 : decode yB 17 = .ok (.if_icmp (.eq) 40, 3) := by decide +kernel
theorem d57 : decode yB 57 = .ok (.aload_n 3, 1) := by decide +kernel
theorem d58 : decode yB 58 = .ok (.areturn, 1) := by decide +kernel
def site : List Cond := [.arrayClass .byte, Cmp5.tab] ++ staticW U16 115 Cmp5.yN
def tab : Cond := tabOf yN yB 6 (some (.array .byte)) site
def P (b : Addr) (A : Cell) (o len : Nat) (args : Array Value) (s : State) : Prop := args = #[.ref b, .int (Int32.ofNat o), .int (Int32.ofNat len)] ∧ Ch b A s ∧ o + len ≤ A.slots.size ∧ len ≤ 536870912 ∧ ∀ i, i < len → ¬ 255 < cv A (o + i)
def E (b : Addr) (A : Cell) (o len : Nat) (r : Option Value) (s u : State) : Prop := NewArr .byte "[B" len (fun j => .int (lo8 (cv A (o + j)))) r s u ∧ u.heap.size = s.heap.size + 1
/-- no char of the range above 255: a new byte[] of their low bytes -/
theorem law (l : Launch) (b : Addr) (A : Cell) (o len : Nat) : Law l yN 3 3 1 18 yB 6 (some (.array .byte)) site (P b A o len) (E b A o len) [] 1 len := by
  refine Law.of_walk (plainFor_of_name (by decide +kernel)) (by decide +kernel) (by decide +kernel) (by decide) (fun _ _ h => by rw [h.1]; rfl) (fun _ U U' hal hh h => ⟨h.1, h.2.1.mv hal hh, h.2.2⟩) (fun r U U' V V' h1 hal h2 h => ⟨NewArr.mv r U U' V V' h1 hal h2 h.1, by rw [h1, h2]; exact h.2⟩) ?_
  intro p e s m args below meth c s₁ X0 hexec hbytes hml hret hlk hnm hown hh0 W hP
  obtain ⟨rfl, hA, l1, l2, hp⟩ := hP
  have a31 := hA.1.2.2.2
  have c1 : Steps p.tables e below (s₁.setTop (entryFrame m #[.ref b, .int (Int32.ofNat o), .int (Int32.ofNat len)] 6)) (s₁.setTop (mkF m 0 #[.val (.ref b), .val (.int (Int32.ofNat o)), .val (.int (Int32.ofNat len)), .unset, .unset, .unset] [])) := entry rfl
  have c2 : Steps p.tables e below (s₁.setTop (entryFrame m #[.ref b, .int (Int32.ofNat o), .int (Int32.ofNat len)] 6)) (s₁.setTop (mkF m 1 #[.val (.ref b), .val (.int (Int32.ofNat o)), .val (.int (Int32.ofNat len)), .unset, .unset, .unset] [.int (Int32.ofNat len)])) := c1.trans (by
    refine XS.iloadN X0.here hexec rfl (hb hbytes d0) rfl ?_
    exact Steps.refl _)
  obtain ⟨T3, B3, X3, ba3, bs3, bv3, bh3, bf3, st3⟩ := X0.anew hexec (atype := .byte) (wk W (.arrayClass .byte)) rfl (by show len * 1 ≤ _; omega) (by omega) (g := (mkF m 1 #[.val (.ref b), .val (.int (Int32.ofNat o)), .val (.int (Int32.ofNat len)), .unset, .unset, .unset] [.int (Int32.ofNat len)])) rfl (hb hbytes d1) (rest := []) rfl (Nat.le_refl _) (by show 0 + len ≤ len; omega)
  rw [hh0] at ba3 st3
  have kp3 : XT.Kept s T3 := (XT.Kept.of_eq hh0).push bh3
  have hA3 := hA.keep X3.warmed.alike (kp3 _ _ hA.1.1)
  have hne : b ≠ s.heap.size := hA.1.ne
  have c4 : Steps p.tables e below (s₁.setTop (entryFrame m #[.ref b, .int (Int32.ofNat o), .int (Int32.ofNat len)] 6)) (T3.setTop (mkF m 3 #[.val (.ref b), .val (.int (Int32.ofNat o)), .val (.int (Int32.ofNat len)), .unset, .unset, .unset] [.ref s.heap.size])) := c2.trans (st3 _ (Steps.refl _))
  have c5 : Steps p.tables e below (s₁.setTop (entryFrame m #[.ref b, .int (Int32.ofNat o), .int (Int32.ofNat len)] 6)) (T3.setTop (mkF m 9 #[.val (.ref b), .val (.int (Int32.ofNat o)), .val (.int (Int32.ofNat len)), .val (.ref s.heap.size), .unset, .unset] [.int (Int32.ofNat len), .int 0, .ref s.heap.size, .int (Int32.ofNat o), .ref b])) := c4.trans (by
    refine XS.astoreN X3.here hexec rfl (hb hbytes d3) rfl rfl rfl ?_
    refine XS.aloadN X3.here hexec rfl (hb hbytes d4) rfl rfl ?_
    refine XS.iloadN X3.here hexec rfl (hb hbytes d5) rfl ?_
    refine XS.aloadN X3.here hexec rfl (hb hbytes d6) rfl rfl ?_
    refine iconstV X3.here hexec rfl 0 (hb hbytes d7) (by decide) ?_
    refine XS.iloadN X3.here hexec rfl (hb hbytes d8) rfl ?_
    exact Steps.refl _)
  obtain ⟨v6, T6, X6, E6, g6⟩ := X3.callS hexec (Cmp5.law l b A s.heap.size B3 o 0 len) hown (wks W (staticW U16 115 Cmp5.yN)) (wk W Cmp5.tab) (W := 0) (Nat.le_of_ble_eq_true rfl) (Nat.le_of_ble_eq_true rfl) (Nat.le_refl _) (by show 0 + len + 0 ≤ len; omega) (g := (mkF m 9 #[.val (.ref b), .val (.int (Int32.ofNat o)), .val (.int (Int32.ofNat len)), .val (.ref s.heap.size), .unset, .unset] [.int (Int32.ofNat len), .int (Int32.ofNat 0), .ref s.heap.size, .int (Int32.ofNat o), .ref b])) rfl (by rw [hml]; rfl) c5 (argsL := [.ref b, .int (Int32.ofNat o), .ref s.heap.size, .int (Int32.ofNat 0), .int (Int32.ofNat len)]) (rest := []) rfl rfl (by show 2 * 0 + 0 ≤ _; decide) (hb hbytes d9) (⟨rfl, hA3, ba3, hne, l1, by rw [bs3]; simp, hp⟩)
  obtain ⟨rfl, B6, p6, f6⟩ := E6
  have c7 : Steps p.tables e below (s₁.setTop (entryFrame m #[.ref b, .int (Int32.ofNat o), .int (Int32.ofNat len)] 6)) (T6.setTop (mkF m 12 #[.val (.ref b), .val (.int (Int32.ofNat o)), .val (.int (Int32.ofNat len)), .val (.ref s.heap.size), .unset, .unset] [.int (Int32.ofNat len)])) := g6
  have c8 : Steps p.tables e below (s₁.setTop (entryFrame m #[.ref b, .int (Int32.ofNat o), .int (Int32.ofNat len)] 6)) (T6.setTop (mkF m 58 #[.val (.ref b), .val (.int (Int32.ofNat o)), .val (.int (Int32.ofNat len)), .val (.ref s.heap.size), .val (.int (Int32.ofNat len)), .unset] [.ref s.heap.size])) := c7.trans (by
    refine XS.istore X6.here hexec rfl (hb hbytes d12) rfl rfl ?_
    refine XS.iload X6.here hexec rfl (hb hbytes d14) rfl ?_
    refine XS.iloadN X6.here hexec rfl (hb hbytes d16) rfl ?_
    refine XS.icmpYes X6.here hexec rfl (pc0 := 17) rfl (hb hbytes d17) rfl (ii_eq_t rfl) (by decide) rfl ?_
    refine XS.aloadN X6.here hexec rfl (hb hbytes d57) rfl rfl ?_
    exact Steps.refl _)
  have X8 := X6.wide (L' := []) (cells' := 1) (slots' := len) (fun x hx hlt => by
    simp only [List.nil_append, copyLocs, List.mem_map, List.mem_range] at hx
    obtain ⟨i, -, rfl⟩ := hx
    exact absurd hlt (Nat.lt_irrefl _)) (Nat.le_refl _) (by omega)
  exact ⟨T6, some (.ref s.heap.size), _, _, _, X8, rfl, rfl, rfl, (fun h => by cases h), ⟨⟨rfl, B6, ba3.like (X3.warmed.alike.symm.trans X6.warmed.alike) p6.1 f6.1 f6.2.1 f6.2.2.1, f6.2.1.trans bv3, by rw [X6.warmed.alike.findClass, f6.1]; exact bf3, by rw [f6.2.2.1, bs3]; simp, fun j hj => by rw [f6.2.2.2 j, if_pos (by omega)]; rfl, kp3.put p6 (Nat.le_refl _)⟩, by rw [p6.2.2, bh3, hh0]; simp⟩, fun fs hl => c8.trans (X8.areturnOut hexec rfl hret rfl (hb hbytes d58) hl)⟩
end Cmp3
namespace CodL
def yN : MethodName := ⟨"java/lang/StringUTF16", "coderFromArrayLen", "([BI)B"⟩
abbrev yB : ByteArray := jdk_52_method_15_code
theorem d0 : decode yB 0 = .ok (.iload_n 1, 1) := by decide +kernel
theorem d1 : decode yB 1 = .ok (.aload_n 0, 1) := by decide +kernel
theorem d2 : decode yB 2 = .ok (.arraylength, 1) := by decide +kernel
theorem d3 : decode yB 3 = .ok (.isub, 1) := by decide +kernel
theorem d4 : decode yB 4 = .ok (.bipush 31, 2) := by decide +kernel
theorem d6 : decode yB 6 = .ok (.iushr, 1) := by decide +kernel
theorem d7 : decode yB 7 = .ok (.i2b, 1) := by decide +kernel
theorem d8 : decode yB 8 = .ok (.ireturn, 1) := by decide +kernel
def site : List Cond := []
def tab : Cond := tabOf yN yB 2 (some .byte) site
def P (d : Addr) (B : Cell) (args : Array Value) (s : State) : Prop := args = #[.ref d, .int (Int32.ofNat B.slots.size)] ∧ Arr .byte d B s
def E (r : Option Value) (s u : State) : Prop := XT.PureE (some (.int 0)) r s u
/-- an array as long as the number of chars: LATIN1 -/
theorem law (l : Launch) (d : Addr) (B : Cell) : Law l yN 2 2 0 0 yB 2 (some .byte) site (P d B) E [] 0 0 := by
  refine Law.of_walk (plainFor_of_name (by decide +kernel)) (by decide +kernel) (by decide +kernel) (by decide) (fun _ _ h => by rw [h.1]; rfl) (fun _ U U' hal hh h => ⟨h.1, h.2.mv hal hh⟩) (fun r U U' V V' h1 hal h2 h => XT.PureE.mv r U U' V V' h1 hal h2 h) ?_
  intro p e s m args below meth c s₁ X0 hexec hbytes hml hret hlk hnm hown hh0 W hP
  obtain ⟨rfl, hB⟩ := hP
  have hB0 := hB.mv X0.warmed.alike hh0
  have c1 : Steps p.tables e below (s₁.setTop (entryFrame m #[.ref d, .int (Int32.ofNat B.slots.size)] 2)) (s₁.setTop (mkF m 0 #[.val (.ref d), .val (.int (Int32.ofNat B.slots.size))] [])) := entry rfl
  have c2 : Steps p.tables e below (s₁.setTop (entryFrame m #[.ref d, .int (Int32.ofNat B.slots.size)] 2)) (s₁.setTop (mkF m 2 #[.val (.ref d), .val (.int (Int32.ofNat B.slots.size))] [.ref d, .int (Int32.ofNat B.slots.size)])) := c1.trans (by
    refine XS.iloadN X0.here hexec rfl (hb hbytes d0) rfl ?_
    refine XS.aloadN X0.here hexec rfl (hb hbytes d1) rfl rfl ?_
    exact Steps.refl _)
  have c3 : Steps p.tables e below (s₁.setTop (entryFrame m #[.ref d, .int (Int32.ofNat B.slots.size)] 2)) (s₁.setTop (mkF m 8 #[.val (.ref d), .val (.int (Int32.ofNat B.slots.size))] [.int (lo8 (ushr (Int32.ofNat B.slots.size - Int32.ofNat B.slots.size) 31))])) := c2.trans (by
    refine X0.alen hexec hB0 rfl rfl (hb hbytes d2) ?_
    refine XS.isub X0.here hexec rfl (hb hbytes d3) rfl ?_
    refine bipushV X0.here hexec rfl 31 (hb hbytes d4) (by decide) ?_
    refine iushr X0.here hexec rfl (hb hbytes d6) rfl ?_
    refine i2b X0.here hexec rfl (hb hbytes d7) rfl ?_
    exact Steps.refl _)
  have e0 : lo8 (ushr (Int32.ofNat B.slots.size - Int32.ofNat B.slots.size) 31) = 0 := by rw [Int32.sub_self]; decide
  rw [e0] at c3
  exact ⟨s₁, some (.int 0), _, _, _, X0, rfl, rfl, rfl, (fun h => by cases h), ⟨rfl, hh0⟩, fun fs hl => c3.trans (X0.ireturnOut hexec hret rfl (Or.inr (Or.inr (Or.inl rfl))) (hb hbytes d8) hl)⟩
end CodL
/-- the String at a is Latin-1 over a new byte[] (the heap's one new cell): the low bytes of the len chars of A from o on; every cell but a is kept -/
def Got (a : Addr) (D : Cell) (fV fC : Field) (A : Cell) (o len : Nat) (r : Option Value) (s u : State) : Prop := r = none ∧ ∃ D' V : Cell, Blank "java/lang/String" a D' u ∧ Same D D' [fV.slot, fC.slot] ∧ D'.slots[fV.slot]? = some (.ref s.heap.size) ∧ D'.slots[fC.slot]? = some (.int 0) ∧ Arr .byte s.heap.size V u ∧ V.vm = .none ∧ u.vm.findClass "[B" = some V.cls ∧ V.slots.size = len ∧ (∀ j, j < len → V.slots[j]? = some (.int (lo8 (cv A (o + j))))) ∧ (∀ (y : Addr) (c : Cell), y ≠ a → s.heap[y]? = some c → u.heap[y]? = some c) ∧ u.heap.size = s.heap.size + 1
theorem Got.mv {a : Addr} {D A : Cell} {fV fC : Field} {o len : Nat} : ∀ r (U U' V V' : State), U'.heap = U.heap → V.vm.Alike V'.vm → V'.heap = V.heap → Got a D fV fC A o len r U V → Got a D fV fC A o len r U' V' :=
  fun r U U' V V' h1 hal h2 ⟨e0, D', X, a1, a2, a3, a4, a5, a6, a7, a8, a9, a10, a11⟩ => ⟨e0, D', X, a1.mv hal h2, a2, by rw [h1]; exact a3, a4, by rw [h1]; exact a5.mv hal h2, a6, by rw [hal.findClass]; exact a7, a8, a9, by rw [h1, h2]; exact a10, by rw [h1, h2]; exact a11⟩
namespace New4
def yN : MethodName := ⟨"java/lang/String", "<init>", "([CIILjava/lang/Void;)V"⟩
abbrev yB : ByteArray := jdk_42_method_149_code
theorem d0 : decode yB 0 = .ok (.aload_n 0, 1) := by decide +kernel
theorem d1 : decode yB 1 = .ok (.invokespecial 1, 3) := by decide +kernel
theorem d4 : decode yB 4 = .ok (.iload_n 3, 1) := by decide +kernel
theorem d5 : decode yB 5 = .ok (.ifCond (.ne) 22, 3) := by decide +kernel
theorem d27 : decode yB 27 = .ok (.getstatic 38, 3) := by decide +kernel
theorem d30 : decode yB 30 = .ok (.ifCond (.eq) 28, 3) := by decide +kernel
theorem d33 : decode yB 33 = .ok (.aload_n 1, 1) := by decide +kernel
theorem d34 : decode yB 34 = .ok (.iload_n 2, 1) := by decide +kernel
theorem d35 : decode yB 35 = .ok (.iload_n 3, 1) := by decide +kernel
theorem d36 : decode yB 36 = .ok (.invokestatic 177, 3) := by decide +kernel
theorem d39 : decode yB 39 = .ok (.astore 5, 2) := by decide +kernel
theorem d41 : decode yB 41 = .ok (.aload_n 0, 1) := by decide +kernel
theorem d42 : decode yB 42 = .ok (.aload 5, 2) := by decide +kernel
theorem d44 : decode yB 44 = .ok (.iload_n 3, 1) := by decide +kernel
theorem d45 : decode yB 45 = .ok (.invokestatic 47, 3) := by decide +kernel
theorem d48 : decode yB 48 = .ok (.putfield 15, 3) := by decide +kernel
theorem d51 : decode yB 51 = .ok (.aload_n 0, 1) := by decide +kernel
theorem d52 : decode yB 52 = .ok (.aload 5, 2) := by decide +kernel
theorem d54 : decode yB 54 = .ok (.putfield 9, 3) := by decide +kernel
theorem d57 : decode yB 57 = .ok (.return_, 1) := by decide +kernel
def site : List Cond := [.fieldLink "java/lang/String" 38 "java/lang/String" "COMPACT_STRINGS" "Z", Cmp3.tab, CodL.tab, .laysFinal "java/lang/String" "java/lang/String" "value" "[B", .fieldLink "java/lang/String" 9 "java/lang/String" "value" "[B", .laysFinal "java/lang/String" "java/lang/String" "coder" "B", .fieldLink "java/lang/String" 15 "java/lang/String" "coder" "B"] ++ objW "java/lang/String" 1 ++ staticW "java/lang/String" 177 Cmp3.yN ++ staticW "java/lang/String" 47 CodL.yN
def tab : Cond := tabOf yN yB 6 none site
def P (a : Addr) (D : Cell) (fV fC : Field) (b : Addr) (A : Cell) (z : Int32) (o len : Nat) (args : Array Value) (s : State) : Prop := args = #[.ref a, .ref b, .int (Int32.ofNat o), .int (Int32.ofNat len), .null] ∧ Blank "java/lang/String" a D s ∧ Found "java/lang/String" "value" "[B" fV s ∧ Found "java/lang/String" "coder" "B" fC s ∧ Ch b A s ∧ StaticIs s "java/lang/String" "COMPACT_STRINGS" "Z" (.int z) ∧ ¬ z = 0 ∧ 0 < len ∧ o + len ≤ A.slots.size ∧ len ≤ 536870912 ∧ ∀ i, i < len → ¬ 255 < cv A (o + i)
def E (a : Addr) (D : Cell) (fV fC : Field) (A : Cell) (o len : Nat) (r : Option Value) (s u : State) : Prop := Got a D fV fC A o len r s u
/-- len > 0, no char of the range above 255: a Latin-1 String of their low bytes -/
theorem law (l : Launch) (a : Addr) (D : Cell) (fV fC : Field) (b : Addr) (A : Cell) (z : Int32) (o len : Nat) : Law l yN 5 4 2 35 yB 6 none site (P a D fV fC b A z o len) (E a D fV fC A o len) [⟨a, fC.slot⟩, ⟨a, fV.slot⟩] 1 len := by
  refine Law.of_walk (plainFor_of_name (by decide +kernel)) (by decide +kernel) (by decide +kernel) (by decide) (fun _ _ h => by rw [h.1]; rfl) (fun _ U U' hal hh h => ⟨h.1, h.2.1.mv hal hh, h.2.2.1.al hal, h.2.2.2.1.al hal, h.2.2.2.2.1.mv hal hh, h.2.2.2.2.2.1.there hal hh, h.2.2.2.2.2.2⟩) (fun r U U' V V' h1 hal h2 h => Got.mv r U U' V V' h1 hal h2 h) ?_
  intro p e s m args below meth c s₁ X0 hexec hbytes hml hret hlk hnm hown hh0 W hP
  obtain ⟨rfl, hB, f1, f2, hA, s1, hz, l0, l1, l2, hp⟩ := hP
  have a31 := hA.1.2.2.2
  have c1 : Steps p.tables e below (s₁.setTop (entryFrame m #[.ref a, .ref b, .int (Int32.ofNat o), .int (Int32.ofNat len), .null] 6)) (s₁.setTop (mkF m 0 #[.val (.ref a), .val (.ref b), .val (.int (Int32.ofNat o)), .val (.int (Int32.ofNat len)), .val .null, .unset] [])) := entry rfl
  have c2 : Steps p.tables e below (s₁.setTop (entryFrame m #[.ref a, .ref b, .int (Int32.ofNat o), .int (Int32.ofNat len), .null] 6)) (s₁.setTop (mkF m 1 #[.val (.ref a), .val (.ref b), .val (.int (Int32.ofNat o)), .val (.int (Int32.ofNat len)), .val .null, .unset] [.ref a])) := c1.trans (by
    refine XS.aloadN X0.here hexec rfl (hb hbytes d0) rfl rfl ?_
    exact Steps.refl _)
  obtain ⟨T3, X3, q3, st3⟩ := X0.oinit hexec hown (wks W (objW "java/lang/String" 1)) (g := (mkF m 1 #[.val (.ref a), .val (.ref b), .val (.int (Int32.ofNat o)), .val (.int (Int32.ofNat len)), .val .null, .unset] [.ref a])) rfl (by rw [hml]; rfl) (rest := []) rfl (hb hbytes d1) (W := 0) (by show 2 * 0 + 0 ≤ _; decide) (Nat.le_of_ble_eq_true rfl) (Nat.le_of_ble_eq_true rfl)
  have hh3 := q3.trans hh0
  have c4 : Steps p.tables e below (s₁.setTop (entryFrame m #[.ref a, .ref b, .int (Int32.ofNat o), .int (Int32.ofNat len), .null] 6)) (T3.setTop (mkF m 27 #[.val (.ref a), .val (.ref b), .val (.int (Int32.ofNat o)), .val (.int (Int32.ofNat len)), .val .null, .unset] [])) := (c2.trans (st3 _ (Steps.refl _))).trans (by
    refine XS.iloadN X3.here hexec rfl (hb hbytes d4) rfl ?_
    refine XS.ifYes X3.here hexec rfl (pc0 := 5) rfl (hb hbytes d5) rfl (i0_ne_t (nz32 (by omega) l0)) (by decide) rfl ?_
    exact Steps.refl _)
  obtain ⟨T5, X5, q5, st5⟩ := X3.sget hexec hown (wk W (.fieldLink "java/lang/String" 38 "java/lang/String" "COMPACT_STRINGS" "Z")) s1 (fun _ _ h => by rw [hh3]; exact h) (g := (mkF m 27 #[.val (.ref a), .val (.ref b), .val (.int (Int32.ofNat o)), .val (.int (Int32.ofNat len)), .val .null, .unset] [])) rfl (hb hbytes d27)
  have hh5 := q5.trans hh3
  have c6 : Steps p.tables e below (s₁.setTop (entryFrame m #[.ref a, .ref b, .int (Int32.ofNat o), .int (Int32.ofNat len), .null] 6)) (T5.setTop (mkF m 30 #[.val (.ref a), .val (.ref b), .val (.int (Int32.ofNat o)), .val (.int (Int32.ofNat len)), .val .null, .unset] [.int z])) := c4.trans (st5 _ (Steps.refl _))
  have c7 : Steps p.tables e below (s₁.setTop (entryFrame m #[.ref a, .ref b, .int (Int32.ofNat o), .int (Int32.ofNat len), .null] 6)) (T5.setTop (mkF m 36 #[.val (.ref a), .val (.ref b), .val (.int (Int32.ofNat o)), .val (.int (Int32.ofNat len)), .val .null, .unset] [.int (Int32.ofNat len), .int (Int32.ofNat o), .ref b])) := c6.trans (by
    refine XS.ifNo X5.here hexec rfl (hb hbytes d30) rfl (i0_eq_f hz) ?_
    refine XS.aloadN X5.here hexec rfl (hb hbytes d33) rfl rfl ?_
    refine XS.iloadN X5.here hexec rfl (hb hbytes d34) rfl ?_
    refine XS.iloadN X5.here hexec rfl (hb hbytes d35) rfl ?_
    exact Steps.refl _)
  obtain ⟨v8, T8, X8, E8, g8⟩ := X5.callS hexec (Cmp3.law l b A o len) hown (wks W (staticW "java/lang/String" 177 Cmp3.yN)) (wk W Cmp3.tab) (W := 0) (Nat.le_of_ble_eq_true rfl) (Nat.le_of_ble_eq_true rfl) (Nat.le_refl _) (by show 0 + len ≤ len; omega) (g := (mkF m 36 #[.val (.ref a), .val (.ref b), .val (.int (Int32.ofNat o)), .val (.int (Int32.ofNat len)), .val .null, .unset] [.int (Int32.ofNat len), .int (Int32.ofNat o), .ref b])) rfl (by rw [hml]; rfl) c7 (argsL := [.ref b, .int (Int32.ofNat o), .int (Int32.ofNat len)]) (rest := []) rfl rfl (by show 2 * 0 + 0 ≤ _; decide) (hb hbytes d36) (⟨rfl, hA.mv X5.warmed.alike hh5, l1, l2, hp⟩)
  obtain ⟨e8, z8⟩ := E8
  obtain ⟨rfl, N, n1, n2, n3, n4, n5, n6⟩ := NewArr.mv _ T5 s _ _ hh5.symm (Vm.Alike.refl _) rfl e8
  rw [hh5] at z8
  have hB1 := hB.keep X8.warmed.alike (n6 _ _ hB.1)
  have hne : s.heap.size ≠ a := (Nat.ne_of_lt (Array.getElem?_eq_some_iff.mp hB.1).1).symm
  have c9 : Steps p.tables e below (s₁.setTop (entryFrame m #[.ref a, .ref b, .int (Int32.ofNat o), .int (Int32.ofNat len), .null] 6)) (T8.setTop (mkF m 39 #[.val (.ref a), .val (.ref b), .val (.int (Int32.ofNat o)), .val (.int (Int32.ofNat len)), .val .null, .unset] [.ref s.heap.size])) := g8
  have c10 : Steps p.tables e below (s₁.setTop (entryFrame m #[.ref a, .ref b, .int (Int32.ofNat o), .int (Int32.ofNat len), .null] 6)) (T8.setTop (mkF m 45 #[.val (.ref a), .val (.ref b), .val (.int (Int32.ofNat o)), .val (.int (Int32.ofNat len)), .val .null, .val (.ref s.heap.size)] [.int (Int32.ofNat N.slots.size), .ref s.heap.size, .ref a])) := by
    have hc : Steps p.tables e below (s₁.setTop (entryFrame m #[.ref a, .ref b, .int (Int32.ofNat o), .int (Int32.ofNat len), .null] 6)) (T8.setTop (mkF m 45 #[.val (.ref a), .val (.ref b), .val (.int (Int32.ofNat o)), .val (.int (Int32.ofNat len)), .val .null, .val (.ref s.heap.size)] [.int (Int32.ofNat len), .ref s.heap.size, .ref a])) := c9.trans (by
      refine XS.astore X8.here hexec rfl (hb hbytes d39) rfl rfl rfl ?_
      refine XS.aloadN X8.here hexec rfl (hb hbytes d41) rfl rfl ?_
      refine XS.aload X8.here hexec rfl (hb hbytes d42) rfl rfl ?_
      refine XS.iloadN X8.here hexec rfl (hb hbytes d44) rfl ?_
      exact Steps.refl _)
    rw [n4]; exact hc
  obtain ⟨v11, T11, X11, E11, g11⟩ := X8.callS hexec (CodL.law l s.heap.size N) hown (wks W (staticW "java/lang/String" 47 CodL.yN)) (wk W CodL.tab) (W := 1) (Nat.le_of_ble_eq_true rfl) (Nat.le_of_ble_eq_true rfl) (Nat.le_refl _) (by show 0 + len + 0 ≤ len; omega) (g := (mkF m 45 #[.val (.ref a), .val (.ref b), .val (.int (Int32.ofNat o)), .val (.int (Int32.ofNat len)), .val .null, .val (.ref s.heap.size)] [.int (Int32.ofNat N.slots.size), .ref s.heap.size, .ref a])) rfl (by rw [hml]; rfl) c10 (argsL := [.ref s.heap.size, .int (Int32.ofNat N.slots.size)]) (rest := [.ref a]) rfl rfl (by show 2 * 0 + (1 + 0) ≤ _; decide) (hb hbytes d45) (⟨rfl, n1⟩)
  obtain ⟨rfl, q11⟩ := E11
  have hB11 := hB1.mv (X8.warmed.alike.symm.trans X11.warmed.alike) q11
  have c12 : Steps p.tables e below (s₁.setTop (entryFrame m #[.ref a, .ref b, .int (Int32.ofNat o), .int (Int32.ofNat len), .null] 6)) (T11.setTop (mkF m 48 #[.val (.ref a), .val (.ref b), .val (.int (Int32.ofNat o)), .val (.int (Int32.ofNat len)), .val .null, .val (.ref s.heap.size)] [.int 0, .ref a])) := g11
  obtain ⟨T13, X13, p13, bl13, sl13, st13⟩ := X11.finit hexec hown (wk W (.fieldLink "java/lang/String" 15 "java/lang/String" "coder" "B")) (Or.inr ⟨_, (wk W (.laysFinal "java/lang/String" "java/lang/String" "coder" "B"))⟩) (Or.inl ⟨rfl, hnm⟩) f2 (Or.inl rfl) hB11 (t := .byte) (by decide +kernel) rfl (g := (mkF m 48 #[.val (.ref a), .val (.ref b), .val (.int (Int32.ofNat o)), .val (.int (Int32.ofNat len)), .val .null, .val (.ref s.heap.size)] [.int 0, .ref a])) rfl (rest := []) rfl (hb hbytes d48)
  have c14 : Steps p.tables e below (s₁.setTop (entryFrame m #[.ref a, .ref b, .int (Int32.ofNat o), .int (Int32.ofNat len), .null] 6)) (T13.setTop (mkF m 54 #[.val (.ref a), .val (.ref b), .val (.int (Int32.ofNat o)), .val (.int (Int32.ofNat len)), .val .null, .val (.ref s.heap.size)] [.ref s.heap.size, .ref a])) := (c12.trans (st13 _ (Steps.refl _))).trans (by
    refine XS.aloadN X13.here hexec rfl (hb hbytes d51) rfl rfl ?_
    refine XS.aload X13.here hexec rfl (hb hbytes d52) rfl rfl ?_
    exact Steps.refl _)
  obtain ⟨T15, X15, p15, bl15, sl15, st15⟩ := X13.finit hexec hown (wk W (.fieldLink "java/lang/String" 9 "java/lang/String" "value" "[B")) (Or.inr ⟨_, (wk W (.laysFinal "java/lang/String" "java/lang/String" "value" "[B"))⟩) (Or.inl ⟨rfl, hnm⟩) f1 (Or.inl rfl) bl13 (t := (.array .byte)) (by decide +kernel) rfl (g := (mkF m 54 #[.val (.ref a), .val (.ref b), .val (.int (Int32.ofNat o)), .val (.int (Int32.ofNat len)), .val .null, .val (.ref s.heap.size)] [.ref s.heap.size, .ref a])) rfl (rest := []) rfl (hb hbytes d54)
  have c16 : Steps p.tables e below (s₁.setTop (entryFrame m #[.ref a, .ref b, .int (Int32.ofNat o), .int (Int32.ofNat len), .null] 6)) (T15.setTop (mkF m 57 #[.val (.ref a), .val (.ref b), .val (.int (Int32.ofNat o)), .val (.int (Int32.ofNat len)), .val .null, .val (.ref s.heap.size)] [])) := c14.trans (st15 _ (Steps.refl _))
  have ap := apart (Or.inr ⟨_, (wk W (.laysFinal "java/lang/String" "java/lang/String" "value" "[B"))⟩) (Or.inr ⟨_, (wk W (.laysFinal "java/lang/String" "java/lang/String" "coder" "B"))⟩) f1 f2 (t₁ := .array .byte) (t₂ := .byte) (by decide +kernel) (by decide +kernel) (by decide)
  have al := X8.warmed.alike.symm.trans X15.warmed.alike
  have n7 : T11.heap[s.heap.size]? = some N := by rw [q11]; exact n1.1
  exact ⟨T15, none, _, _, _, X15, by simp, rfl, by omega, (fun _ => rfl), ⟨rfl, _, N, bl15, ((Same.refl D _).set _ (by simp)).set _ (by simp), sl15, (Cell.slots_setSlot_ne _ ap).trans sl13, n1.keep al (p15.other hne (p13.other hne n7)), n2, by rw [al.findClass]; exact n3, n4, n5, fun y c h1 h2 => p15.other h1 (p13.other h1 (by rw [q11]; exact n6 y c h2)), by rw [p15.2.2, p13.2.2, q11]; exact z8⟩, fun fs hl => c16.trans (X15.returnOut hexec hret (hb hbytes d57) hl)⟩
end New4
namespace New1
def yN : MethodName := ⟨"java/lang/String", "<init>", "([C)V"⟩
abbrev yB : ByteArray := jdk_42_method_3_code
theorem d0 : decode yB 0 = .ok (.aload_n 0, 1) := by decide +kernel
theorem d1 : decode yB 1 = .ok (.aload_n 1, 1) := by decide +kernel
theorem d2 : decode yB 2 = .ok (.iconst 0, 1) := by decide +kernel
theorem d3 : decode yB 3 = .ok (.aload_n 1, 1) := by decide +kernel
theorem d4 : decode yB 4 = .ok (.arraylength, 1) := by decide +kernel
theorem d5 : decode yB 5 = .ok (.aconst_null, 1) := by decide +kernel
theorem d6 : decode yB 6 = .ok (.invokespecial 27, 3) := by decide +kernel
theorem d9 : decode yB 9 = .ok (.return_, 1) := by decide +kernel
def site : List Cond := [New4.tab] ++ initW "java/lang/String" 27 New4.yN
def tab : Cond := tabOf yN yB 2 none site
def P (a : Addr) (D : Cell) (fV fC : Field) (b : Addr) (A : Cell) (z : Int32) (args : Array Value) (s : State) : Prop := args = #[.ref a, .ref b] ∧ Blank "java/lang/String" a D s ∧ Found "java/lang/String" "value" "[B" fV s ∧ Found "java/lang/String" "coder" "B" fC s ∧ Ch b A s ∧ StaticIs s "java/lang/String" "COMPACT_STRINGS" "Z" (.int z) ∧ ¬ z = 0 ∧ 0 < A.slots.size ∧ A.slots.size ≤ 536870912 ∧ ∀ i, i < A.slots.size → ¬ 255 < cv A i
def E (a : Addr) (D : Cell) (fV fC : Field) (A : Cell) (r : Option Value) (s u : State) : Prop := Got a D fV fC A 0 A.slots.size r s u
/-- new String(chars), not empty, no char above 255: a Latin-1 String of their low bytes -/
theorem law (l : Launch) (a : Addr) (D : Cell) (fV fC : Field) (b : Addr) (A : Cell) (z : Int32) : Law l yN 2 1 3 52 yB 2 none site (P a D fV fC b A z) (E a D fV fC A) [⟨a, fC.slot⟩, ⟨a, fV.slot⟩] 1 A.slots.size := by
  refine Law.of_walk (plainFor_of_name (by decide +kernel)) (by decide +kernel) (by decide +kernel) (by decide) (fun _ _ h => by rw [h.1]; rfl) (fun _ U U' hal hh h => ⟨h.1, h.2.1.mv hal hh, h.2.2.1.al hal, h.2.2.2.1.al hal, h.2.2.2.2.1.mv hal hh, h.2.2.2.2.2.1.there hal hh, h.2.2.2.2.2.2⟩) (fun r U U' V V' h1 hal h2 h => Got.mv r U U' V V' h1 hal h2 h) ?_
  intro p e s m args below meth c s₁ X0 hexec hbytes hml hret hlk hnm hown hh0 W hP
  obtain ⟨rfl, hB, f1, f2, hA, s1, hz, l0, l2, hp⟩ := hP
  have c1 : Steps p.tables e below (s₁.setTop (entryFrame m #[.ref a, .ref b] 2)) (s₁.setTop (mkF m 0 #[.val (.ref a), .val (.ref b)] [])) := entry rfl
  have c2 : Steps p.tables e below (s₁.setTop (entryFrame m #[.ref a, .ref b] 2)) (s₁.setTop (mkF m 6 #[.val (.ref a), .val (.ref b)] [.null, .int (Int32.ofNat A.slots.size), .int 0, .ref b, .ref a])) := c1.trans (by
    refine XS.aloadN X0.here hexec rfl (hb hbytes d0) rfl rfl ?_
    refine XS.aloadN X0.here hexec rfl (hb hbytes d1) rfl rfl ?_
    refine iconstV X0.here hexec rfl 0 (hb hbytes d2) (by decide) ?_
    refine XS.aloadN X0.here hexec rfl (hb hbytes d3) rfl rfl ?_
    refine X0.alen hexec (hA.1.mv X0.warmed.alike hh0) rfl rfl (hb hbytes d4) ?_
    refine XS.aconstNull X0.here hexec rfl (hb hbytes d5) ?_
    exact Steps.refl _)
  obtain ⟨v3, T3, X3, E3, g3⟩ := X0.callN hexec (New4.law l a D fV fC b A z 0 A.slots.size) rfl hown (wks W (initW "java/lang/String" 27 New4.yN)) (W New4.tab (by simp only [site, List.mem_cons, List.mem_append, true_or, or_true])) (W := 0) (Nat.le_of_ble_eq_true rfl) (Nat.le_of_ble_eq_true rfl) (Nat.le_refl _) (by show 0 + A.slots.size ≤ A.slots.size; omega) (g := (mkF m 6 #[.val (.ref a), .val (.ref b)] [.null, .int (Int32.ofNat A.slots.size), .int (Int32.ofNat 0), .ref b, .ref a])) rfl (by rw [hml]; rfl) c2 (argsL := [.ref b, .int (Int32.ofNat 0), .int (Int32.ofNat A.slots.size), .null]) (rest := []) rfl rfl (by show 2 * 0 + 0 ≤ _; decide) (hb hbytes d6) (⟨rfl, hB.mv X0.warmed.alike hh0, f1.al X0.warmed.alike, f2.al X0.warmed.alike, hA.mv X0.warmed.alike hh0, s1.there X0.warmed.alike hh0, hz, l0, by omega, l2, fun i hi => by rw [Nat.zero_add]; exact hp i hi⟩)
  have e0 := Got.mv _ s₁ s _ _ hh0.symm (Vm.Alike.refl _) rfl E3
  obtain rfl := e0.1
  have c4 : Steps p.tables e below (s₁.setTop (entryFrame m #[.ref a, .ref b] 2)) (T3.setTop (mkF m 9 #[.val (.ref a), .val (.ref b)] [])) := g3
  exact ⟨T3, none, _, _, _, X3, by simp, rfl, by omega, (fun _ => rfl), e0, fun fs hl => c4.trans (X3.returnOut hexec hret (hb hbytes d9) hl)⟩
theorem pays {l : Launch} {R : Room} {p : Program} {e : Env} {below : List Frame} {s : State} {sargs : Array Value} {len W : Nat} (a : Addr) (D : Cell) (fV fC : Field) (b : Addr) (A : Cell) (z : Int32) (htab : tab.before sargs s = true) (hfr : 4 ≤ R.frames) (hlo : W + 65 ≤ R.locals) :
    Back l R p e below s sargs yN len W (fun A₁ a₁ => A₁.cells + 1 ≤ R.cells ∧ A₁.slots + A.slots.size ≤ R.slots ∧ P a D fV fC b A z a₁ A₁.U) (fun A₁ _ v₁ B₁ => E a D fV fC A v₁ A₁.U B₁.U ∧ B₁.locs = A₁.locs ++ [⟨a, fC.slot⟩, ⟨a, fV.slot⟩] ∧ B₁.cells = A₁.cells + 1 ∧ B₁.slots = A₁.slots + A.slots.size) :=
  (law l a D fV fC b A z).pays htab hfr (by omega)
end New1
end StrChars
namespace StrChars.Road
open Jvm Sem ClassFile Op Lib Jvm.Stand Jvm.Free Jvm.Free.XT
open Jvm.Lib.Cold (StaticIs)
abbrev ST : String := "java/lang/String"
/-- every table word that New1's law asks, flat -/
abbrev words : List Jvm.Cond := [.code New1.yN New1.yB 2 none, .initialized ST, .methodLink ST 27 New4.yN, .instanceMethod New4.yN,
  .code New4.yN New4.yB 6 none, .fieldLink ST 38 ST "COMPACT_STRINGS" "Z", .laysFinal ST ST "value" "[B", .fieldLink ST 9 ST "value" "[B", .laysFinal ST ST "coder" "B", .fieldLink ST 15 ST "coder" "B",
  .methodLink ST 1 Lib.objectInit, .instanceMethod Lib.objectInit, .code Lib.objectInit ⟨#[0xb1]⟩ 1 none, .methodLink ST 177 Cmp3.yN, .static Cmp3.yN, .methodLink ST 47 CodL.yN, .static CodL.yN,
  .code Cmp3.yN Cmp3.yB 6 (some (.array .byte)), .initialized U16, .arrayClass .byte, .methodLink U16 115 Cmp5.yN, .static Cmp5.yN, .code Cmp5.yN Cmp5.yB 7 (some .int), .code CodL.yN CodL.yB 2 (some .byte)]
theorem tab_of {a : Array Value} {s : State} (h : ∀ w ∈ words, w.before a s = true) : New1.tab.before a s = true := by
  have h5 : Cmp5.tab.before a s = true := unparts (wk h (.code Cmp5.yN Cmp5.yB 7 (some .int))) (wks h (.initialized Cmp5.yN.cls :: Cmp5.site))
  have hc : CodL.tab.before a s = true := unparts (wk h (.code CodL.yN CodL.yB 2 (some .byte))) (wks h (.initialized CodL.yN.cls :: CodL.site))
  have q5 : ∀ w ∈ Cmp5.tab :: words, w.before a s = true := fun w hw => (List.mem_cons.mp hw).elim (fun e => e ▸ h5) (h w)
  have h3 : Cmp3.tab.before a s = true := unparts (wk q5 (.code Cmp3.yN Cmp3.yB 6 (some (.array .byte)))) (wks q5 (.initialized Cmp3.yN.cls :: Cmp3.site))
  have q3 : ∀ w ∈ Cmp3.tab :: CodL.tab :: words, w.before a s = true := fun w hw => (List.mem_cons.mp hw).elim (fun e => e ▸ h3) fun hw => (List.mem_cons.mp hw).elim (fun e => e ▸ hc) (h w)
  have h4 : New4.tab.before a s = true := unparts (wk q3 (.code New4.yN New4.yB 6 none)) (wks q3 (.initialized New4.yN.cls :: New4.site))
  have q4 : ∀ w ∈ New4.tab :: words, w.before a s = true := fun w hw => (List.mem_cons.mp hw).elim (fun e => e ▸ h4) (h w)
  exact unparts (wk q4 (.code New1.yN New1.yB 2 none)) (wks q4 (.initialized New1.yN.cls :: New1.site))
/-- the words ride from the start Z to the walk's own state -/
theorem moved {Z s : State} {a0 args : Array Value} (hZ : Z.Warmed39 s.vm) (hw : ∀ d ∈ words, d.before a0 Z = true) : ∀ d ∈ words, d.before args s = true := fun d hd => by
  have q := hw d hd
  have t : ∀ d ∈ words, d = .arrayClass .byte ∨ (d.onTables && d.keepsFace) = true := by decide +kernel
  rcases t d hd with rfl | t
  · exact RoadKit.mvA hZ q
  · exact RoadKit.mv hZ q t
/-- WHAT COMES BACK, over the tables of the start Z: h the heap at the call, h' behind it -/
def Q (Z : State) (x : Addr) (A : Cell) (h : Heap) (v : Option Value) (h' : Heap) (L : List Loc) : Prop := v = none ∧ (∀ y ∈ L, y.base = x) ∧ RoadKit.Keep h h' [x] ∧ h'.size = h.size + 1 ∧ RoadKit.Exa Z h' x ST ∧ RoadKit.Fld Z h' x ST "value" "[B" (.ref h.size) ∧ RoadKit.Fld Z h' x ST "coder" "B" (.int 0) ∧
  (∃ V : Cell, RoadKit.Arr Z h' h.size V .byte ∧ V.vm = .none ∧ Z.vm.findClass "[B" = some V.cls ∧ V.slots.size = A.slots.size ∧ ∀ j, j < A.slots.size → V.slots[j]? = some (.int (lo8 (cv A j)))) ∧
  ∀ (O n d : String) (w : Value), RoadKit.Fld Z h x O n d w → RoadKit.slotOf Z O n d ≠ RoadKit.slotOf Z ST "value" "[B" → RoadKit.slotOf Z O n d ≠ RoadKit.slotOf Z ST "coder" "B" → RoadKit.Fld Z h' x O n d w
/-- **new String(chars) AT A CALL, IN THE ROAD'S FORM**: for specialBack behind newO: x the fresh String, b the char[] with the cell A -/
theorem back {p : Program} {l : Launch} {e : Env} {R : Room} {s : State} {args : Array Value} {below : List Frame} {len W : Nat} {Z : State} {a0 : Array Value} {h : Heap} (hZ : Z.Warmed39 s.vm) (hw : ∀ d ∈ words, d.before a0 Z = true) {kI : Nat} (wi : (Jvm.Cond.instantiable ST kI).before a0 Z = true)
    {x b : Addr} {A : Cell} {z : Int32} {v0 c0 : Value} (E : RoadKit.Exa Z h x ST) (V : RoadKit.Fld Z h x ST "value" "[B" v0) (C : RoadKit.Fld Z h x ST "coder" "B" c0) (K : RoadKit.Arr Z h b A .char) (hty : Typed .char A) (S : RoadKit.Sta Z h ST "COMPACT_STRINGS" "Z" (.int z)) (hz : ¬ z = 0)
    (l0 : 0 < A.slots.size) (l2 : A.slots.size ≤ 536870912) (hp : ∀ i, i < A.slots.size → ¬ 255 < cv A i) (hfr : 4 ≤ R.frames) (hlo : W + 65 ≤ R.locals) :
    Back l R p e below s args New1.yN len W (fun P a => a = #[.ref x, .ref b] ∧ P.U.heap = h ∧ P.cells + 1 ≤ R.cells ∧ P.slots + A.slots.size ≤ R.slots)
      (fun P _ v B => ∃ L, Q Z x A h v B.U.heap L ∧ B.locs = P.locs ++ L ∧ B.cells = P.cells + 1 ∧ B.slots = P.slots + A.slots.size) := by
  intro m meth c P g ig mk a X hg hsize hdg hW hn hp'
  obtain ⟨rfl, rfl, r1, r2⟩ := hp'
  have al : Z.vm.Alike P.U.vm := hZ.alike.trans X.warmed.alike
  obtain ⟨D, cfV, kV, iV, fV, hD, gV, stV, knV, obV, asV, slV⟩ := id V
  obtain ⟨D', cfC, kC, iC, fC, hD', gC, stC, -, -, asC, slC⟩ := id C
  cases hD.symm.trans hD'
  obtain ⟨D2, kD, e1, e2, e3, e4, e5⟩ := id E
  cases hD.symm.trans e1
  obtain ⟨c2, k2, i1, i2, i3, -⟩ := Cond.instantiable_spec wi
  cases e2.symm.trans i1
  cases e3.symm.trans i2
  obtain ⟨kU, u1, u2⟩ := al.2.2 _ _ e3
  have hB : Blank ST x D P.U := ⟨hD, ⟨knV, fun q hq => by rw [hq] at obV; cases obV⟩, by rw [al.findClass]; exact e2, kU, u1, by rw [u2]; exact i3, by rw [u2]; exact e5 i3⟩
  have F1 : Found ST "value" "[B" fV P.U := ⟨SBG.found_only al ⟨cfV, kV, iV, gV⟩, stV⟩
  have F2 : Found ST "coder" "B" fC P.U := ⟨SBG.found_only al ⟨cfC, kC, iC, gC⟩, stC⟩
  have hA : Ch b A P.U := ⟨⟨K.1, State.isArrayOf_alike al K.2.1, K.2.2, by omega⟩, hty⟩
  have hS : StaticIs P.U ST "COMPACT_STRINGS" "Z" (.int z) := by
    obtain ⟨cfS, iS, kS, fS, st, cS, t1, t2, t3, t4, t5, t6, t7⟩ := S
    exact StaticIs.there (s := { Z with heap := P.U.heap }) ⟨cfS, iS, kS, fS, st, cS, t1, t2, t3, t4, t5, (fun q => by rw [q] at t6; cases t6), t7⟩ al rfl
  obtain ⟨v, B, X', ⟨⟨hv, E', V', q1, q2, q3, q4, q5, q6, q7, q8, q9, q10, q11⟩, hl, hc, hs⟩, st⟩ := New1.pays x D fV fC b A z (tab_of (moved hZ hw)) hfr hlo m meth c P g ig mk _ X hg hsize hdg hW hn ⟨r1, r2, rfl, hB, F1, F2, hA, hS, hz, l0, l2, hp⟩
  have al' : Z.vm.Alike B.U.vm := hZ.alike.trans X'.warmed.alike
  have hsz : E'.slots.size = D.slots.size := by
    obtain ⟨-, -, -, kB, w1, w2, w3⟩ := q1
    obtain ⟨kB', y1, y2⟩ := al'.2.2 _ _ e3
    rw [q2.2.1] at w1
    cases w1.symm.trans y1
    rw [w3, e5 i3, y2]
  refine ⟨v, B, X', ⟨_, ⟨hv, ?_, ⟨by omega, fun y cy hy hn' => q10 y cy (by simpa using hn') hy, fun y cy hy => ?_⟩, q11, ⟨E', _, q1.1, by rw [q2.2.1]; exact e2, by rw [q2.2.1]; exact e3, by rw [q2.1]; exact obV, fun _ => by rw [hsz]; exact e5 i3⟩,
    ⟨E', cfV, kV, iV, fV, q1.1, gV, stV, by rw [q2.1]; exact knV, by rw [q2.1]; exact obV, by rw [q2.2.1]; exact asV, q3⟩, ⟨E', cfC, kC, iC, fC, q1.1, gC, stC, by rw [q2.1]; exact knV, by rw [q2.1]; exact obV, by rw [q2.2.1]; exact asC, q4⟩,
    ⟨V', ⟨q5.1, State.isArrayOf_alike al'.symm q5.2.1, q5.2.2.1⟩, q6, by rw [← al'.findClass]; exact q7, q8, fun j hj => by have := q9 j hj; rwa [Nat.zero_add] at this⟩, fun O n d w F n1 n2 => ?_⟩, hl, hc, hs⟩, st⟩
  · intro y hy
    simp only [List.mem_cons, List.not_mem_nil, or_false] at hy
    rcases hy with rfl | rfl <;> rfl
  · by_cases q : y = x
    · subst q
      cases hD.symm.trans hy
      exact ⟨E', q1.1, q2.2.1, q2.1, hsz⟩
    · exact ⟨cy, q10 y cy q hy, rfl, rfl, rfl⟩
  · obtain ⟨D3, cf, k, i, f, g1, g2, g3, g4, g5, g6, g7⟩ := F
    cases hD.symm.trans g1
    simp only [RoadKit.slotOf, g2, gV, gC, Option.map_some, Option.getD_some] at n1 n2
    exact ⟨E', cf, k, i, f, q1.1, g2, g3, by rw [q2.1]; exact g4, by rw [q2.1]; exact g5, by rw [q2.2.1]; exact g6, by rw [q2.2.2 f.slot (by simp [n1, n2])]; exact g7⟩
end StrChars.Road
namespace StrChars.Road
open Jvm Sem ClassFile Op Lib Jvm.Stand Jvm.Free Jvm.Free.XT
/-- WHAT COMES BACK, the byte[] as a list of values -/
def QA (Z : State) (x : Addr) (zn : Int32) (cs : List Int32) (h : Heap) (v : Option Value) (h' : Heap) (L : List Loc) : Prop := v = none ∧ (∀ y ∈ L, y.base = x) ∧ RoadKit.Keep h h' [x] ∧ h'.size = h.size + 1 ∧ RoadKit.Exa Z h' x ST ∧ RoadKit.Fld Z h' x ST "value" "[B" (.ref h.size) ∧ RoadKit.Fld Z h' x ST "coder" "B" (.int 0) ∧
  (∃ kb, Z.vm.findClass "[B" = some kb ∧ RoadKit.Arv Z h' h.size kb .byte zn (cs.map fun c => .int (lo8 c)) (.int 0)) ∧
  ∀ (O n d : String) (w : Value), RoadKit.Fld Z h x O n d w → RoadKit.slotOf Z O n d ≠ RoadKit.slotOf Z ST "value" "[B" → RoadKit.slotOf Z O n d ≠ RoadKit.slotOf Z ST "coder" "B" → RoadKit.Fld Z h' x O n d w
/-- **new String(chars) AT A CALL, THE ARRAYS AS LISTS**: the char[] at b holds cs, not empty, no char above 255 -/
theorem backArv {p : Program} {l : Launch} {e : Env} {R : Room} {s : State} {args : Array Value} {below : List Frame} {len W : Nat} {Z : State} {a0 : Array Value} {h : Heap} (hZ : Z.Warmed39 s.vm) (hw : ∀ d ∈ words, d.before a0 Z = true) {kI : Nat} (wi : (Jvm.Cond.instantiable ST kI).before a0 Z = true)
    {x b : Addr} {k : ClassId} {zn z : Int32} {cs : List Int32} {dv v0 c0 : Value} (E : RoadKit.Exa Z h x ST) (V : RoadKit.Fld Z h x ST "value" "[B" v0) (C : RoadKit.Fld Z h x ST "coder" "B" c0) (K : RoadKit.Arv Z h b k .char zn (cs.map Value.int) dv) (S : RoadKit.Sta Z h ST "COMPACT_STRINGS" "Z" (.int z)) (hz : ¬ z = 0)
    (hlen : zn.toNatClampNeg = cs.length) (h0 : 0 < cs.length) (hbig : cs.length ≤ 536870912) (hall : ∀ c ∈ cs, ¬ 255 < c) (hfr : 4 ≤ R.frames) (hlo : W + 65 ≤ R.locals) :
    Back l R p e below s args New1.yN len W (fun P a => a = #[.ref x, .ref b] ∧ P.U.heap = h ∧ P.cells + 1 ≤ R.cells ∧ P.slots + cs.length ≤ R.slots)
      (fun P _ v B => ∃ L, QA Z x zn cs h v B.U.heap L ∧ B.locs = P.locs ++ L ∧ B.cells = P.cells + 1 ∧ B.slots = P.slots + cs.length) := by
  obtain ⟨A, K1, K2, K3, K4, K5, K6⟩ := K
  have e : A.slots.size = cs.length := K3.trans hlen
  have hat : ∀ (i : Nat) (hi : i < cs.length), A.slots[i]? = some (.int cs[i]) := fun i hi => by rw [K5 i (by omega)]; simp [List.getD_eq_getElem?_getD, hi]
  have hcv : ∀ (i : Nat) (hi : i < cs.length), cv A i = cs[i] := fun i hi => by unfold cv; rw [hat i hi]
  have hty : Typed .char A := fun i v hv => by
    have hi : i < A.slots.size := (Array.getElem?_eq_some_iff.mp hv).1
    have q := K5 i hi
    rw [hv] at q
    rw [Option.some.inj q]
    exact K6 i hi
  refine Back.mono (back hZ hw wi E V C K1 hty S hz (by omega) (by omega) (fun i hi => by rw [hcv i (by omega)]; exact hall _ (List.getElem_mem _)) hfr hlo) (fun P a hp => ⟨hp.1, hp.2.1, hp.2.2.1, by rw [e]; exact hp.2.2.2⟩) (fun P a v B hp hq => ?_)
  obtain ⟨L, ⟨q1, q2, q3, q4, q5, q6, q7, ⟨V', v1, v2, v3, v4, v5⟩, q9⟩, hl, hc, hs⟩ := hq
  refine ⟨L, ⟨q1, q2, q3, q4, q5, q6, q7, ⟨V'.cls, v3, V', v1, rfl, by rw [v4, e, hlen], K4, fun i hi => ?_, fun i hi => ?_⟩, q9⟩, hl, hc, by rw [hs, e]⟩
  · have hi' : i < cs.length := by omega
    rw [v5 i (by omega), hcv i hi']; simp [List.getD_eq_getElem?_getD, hi']
  · have hi' : i < cs.length := by omega
    simp only [List.getD_eq_getElem?_getD, List.getElem?_map, List.getElem?_eq_getElem hi', Option.map_some, Option.getD_some]
    exact fits_lo8 _
end StrChars.Road
namespace StrChars.Road
open Jvm Sem ClassFile Op Lib Jvm.Stand Jvm.Free Jvm.Free.XT
/-- WHAT COMES BACK, in the writer's own shape -/
def QV (Z : State) (x : Addr) (N : Int32) (bs : List Int32) (h : Heap) (n0 : Nat) (v : Option Value) (h' : Heap) (L : List Loc) : Prop := v = none ∧ RoadKit.Fr n0 L ∧ RoadKit.Keep h h' [x] ∧ RoadKit.Exa Z h' x ST ∧ RoadKit.Fld Z h' x ST "coder" "B" (.int 0) ∧
  ∃ (t : Addr) (kb : ClassId), n0 ≤ t ∧ h.size ≤ t ∧ ¬ t = x ∧ RoadKit.Fld Z h' x ST "value" "[B" (.ref t) ∧ RoadKit.Arv Z h' t kb .byte N (bs.map Value.int) (.int 0)
/-- **new String(chars) AT A CALL, FOR THE WRITER**: a char[] of n known ints, each 0 to 255 -/
theorem backV {p : Program} {l : Launch} {e : Env} {R : Room} {s : State} {args : Array Value} {below : List Frame} {len W : Nat} {Z : State} {a0 : Array Value} {h : Heap} (hZ : Z.Warmed39 s.vm) (hw : ∀ d ∈ words, d.before a0 Z = true) {kI : Nat} (wi : (Jvm.Cond.instantiable ST kI).before a0 Z = true)
    {x b : Addr} {kC : ClassId} {cs bs : List Int32} {d v0 c0 : Value} {z N : Int32} {n n0 : Nat} (hx0 : n0 ≤ x) (hh0 : n0 ≤ h.size) (E : RoadKit.Exa Z h x ST) (V : RoadKit.Fld Z h x ST "value" "[B" v0) (C : RoadKit.Fld Z h x ST "coder" "B" c0) (K : RoadKit.Arv Z h b kC .char N (cs.map Value.int) d) (S : RoadKit.Sta Z h ST "COMPACT_STRINGS" "Z" (.int z)) (hz : ¬ z = 0)
    (hn : cs.length = n) (hN : N = Int32.ofNat n) (l0 : 0 < n) (l2 : n ≤ 4000) (hp : ∀ c ∈ cs, ¬ c < 0 ∧ ¬ (255 : Int32) < c) (hb : bs = cs.map (fun c => c.toInt8.toInt32)) (hfr : 4 ≤ R.frames) (hlo : W + 65 ≤ R.locals) :
    Back l R p e below s args (⟨"java/lang/String", "<init>", "([C)V"⟩ : MethodName) len W (fun P a => a = #[.ref x, .ref b] ∧ P.U.heap = h ∧ P.cells + 1 ≤ R.cells ∧ P.slots + n ≤ R.slots)
      (fun P _ v B => ∃ L, QV Z x N bs h n0 v B.U.heap L ∧ B.locs = P.locs ++ L ∧ B.cells = P.cells + 1 ∧ B.slots = P.slots + n) := by
  subst hn hN hb
  refine Back.mono (backArv hZ hw wi E V C K S hz (n32 (by omega)) l0 (by omega) (fun c hc => (hp c hc).2) hfr hlo) (fun P a hp => hp) (fun P a v B hp hq => ?_)
  obtain ⟨L, ⟨q1, q2, q3, q4, q5, q6, q7, ⟨kb, v1, v2⟩, q9⟩, hl, hc, hs⟩ := hq
  exact ⟨L, ⟨q1, fun y hy => by rw [q2 y hy]; exact hx0, q3, q5, q7, h.size, kb, hh0, Nat.le_refl _, Nat.ne_of_gt E.lt, q6, by rw [List.map_map]; exact v2⟩, hl, hc, hs⟩
end StrChars.Road
namespace StrChars
open Jvm Sem ClassFile Op Lib Jvm.Stand Jvm.Free.XT Jvm.Free.ALB Jvm.Free.JM Jvm.Free
open Jvm.Lib.Cold (StaticIs)
def hi8 (x : Int32) : Int32 := lo8 (x >>> ((8 : Int32) &&& 31))
end StrChars
namespace StrChars.Road
open Jvm Sem ClassFile Op Lib Jvm.Stand Jvm.Free Jvm.Free.XT
open Jvm.Lib.Cold (StaticIs)
/-- the bytes of the chars cs, low before high -/
def wideBytes : List Int32 → List Value
  | [] => []
  | c :: cs => .int (lo8 c) :: .int (hi8 c) :: wideBytes cs
/-- an array of N2 bytes vs codes the chars cs by the coder cd -/
def CodA (cs : List Int32) (cd N2 : Int32) (vs : List Value) : Prop := (cd = 0 ∧ N2 = Int32.ofNat cs.length ∧ vs = (cs.map fun c => Value.int (lo8 c)) ∧ ∀ c ∈ cs, ¬ 255 < c) ∨ (cd = 1 ∧ N2 = Int32.ofNat (2 * cs.length) ∧ vs = wideBytes cs ∧ ∃ c ∈ cs, 255 < c)
end StrChars.Road
namespace StrChars.Road
open Jvm Sem ClassFile Op Lib Jvm.Stand Jvm.Free Jvm.Free.XT
open Jvm.Lib.Cold (StaticIs)
/-- what backV says of its String, as the contracts of this text ask it: cs's low bytes, coder 0 -/
theorem codOf {cs : List Int32} {n : Nat} (hn : cs.length = n) (hb : ∀ c ∈ cs, ¬ 255 < c) : CodA cs 0 (Int32.ofNat n) ((cs.map lo8).map Value.int) := Or.inl ⟨rfl, by rw [hn], by simp [List.map_map, Function.comp_def], hb⟩
end StrChars.Road
end Jvm.Pilot.@@N@@
namespace Jvm.Pilot.@@N@@
namespace W
open Jvm Jvm.ClassFile Sem Op Lib Jvm.Free Jvm.Stand Jvm.LawKit Jvm.RoadKit Bundle
/-- x is a String of the chars cs -/
def Str (Z : State) (h : Heap) (x : Addr) (cs : List Int32) : Prop := ∃ (t : Addr) (kb : ClassId) (N cd : Int32) (vs : List Value), Exa Z h x "java/lang/String" ∧ Fld Z h x "java/lang/String" "value" "[B" (.ref t) ∧ Fld Z h x "java/lang/String" "coder" "B" (.int cd) ∧ Arv Z h t kb .byte N vs (.int 0) ∧ StrChars.Road.CodA cs cd N vs ∧ (∀ c ∈ cs, ¬ c < 0 ∧ ¬ (65535 : Int32) < c) ∧ cs.length ≤ 4000
theorem Str.ext {Z : State} {h h' : Heap} {x : Addr} {cs : List Int32} (S : Str Z h x cs) (E : Ext h h') : Str Z h' x cs := by
  obtain ⟨t, kb, N, cd, vs, a, b, c, d, r⟩ := S; exact ⟨t, kb, N, cd, vs, a.ext E, b.ext E, c.ext E, d.ext E, r⟩
theorem Str.exa {Z : State} {h : Heap} {x : Addr} {cs : List Int32} (S : Str Z h x cs) : Exa Z h x "java/lang/String" := by
  obtain ⟨t, kb, N, cd, vs, a, r⟩ := S; exact a
theorem Str.keepExa {Z : State} {h h' : Heap} {x y : Addr} {cs : List Int32} {C : String} {n : Nat} {a0 : Array Value} (S : Str Z h x cs) (K : Keep h h' [y]) (E : Exa Z h y C) (wi : (Jvm.Cond.instantiable C n).before a0 Z = true) (hC : C ≠ "java/lang/String" := by decide) : Str Z h' x cs := by
  obtain ⟨t, kb, N, cd, vs, a, b, c, d, r⟩ := S
  have n1 : x ≠ y := Exa.ne a E (Ne.symm hC)
  have n2 : t ≠ y := Ne.symm (Exa.neArv E d wi)
  exact ⟨t, kb, N, cd, vs, a.keep K, b.keep K (ninS n1 nin0), c.keep K (ninS n1 nin0), d.keep K (ninS n2 nin0), r⟩
/-- null, or such a String -/
def OStr (Z : State) (h : Heap) (v : Value) (o : Option (List Int32)) : Prop := (v = .null ∧ o = none) ∨ ∃ a cs, v = .ref a ∧ o = some cs ∧ Str Z h a cs
theorem OStr.ext {Z : State} {h h' : Heap} {v : Value} {o : Option (List Int32)} (S : OStr Z h v o) (E : Ext h h') : OStr Z h' v o := by
  rcases S with q | ⟨a, cs, q1, q2, q3⟩
  · exact Or.inl q
  · exact Or.inr ⟨a, cs, q1, q2, q3.ext E⟩
theorem OStr.isRef {Z : State} {h : Heap} {v : Value} {o : Option (List Int32)} (S : OStr Z h v o) : v.isRef = true := by
  rcases S with ⟨rfl, -⟩ | ⟨a, cs, rfl, -⟩ <;> rfl
end W
end Jvm.Pilot.@@N@@
namespace Jvm.Pilot.@@N@@
open Jvm Jvm.ClassFile Sem Op Lib Jvm.Free Jvm.Stand Jvm.LawKit Jvm.RoadKit Bundle Jvm.Pilot.@@N@@.Jvm.D
theorem wd {a0 : Array Value} {Z : State} (hw : ∀ d ∈ tables_1, d.before a0 Z = true) {k : Nat} {d : Jvm.Cond} (h : tables_1[k]? = some d) : d.before a0 Z = true := hw d (List.mem_of_getElem? h)
abbrev ownEL : List (String × Nat) := [("java/lang/String", 7)]
theorem own_atoms : ∀ d ∈ Bundle.stringAtoms, d ∈ tables_1 := by decide +kernel
theorem own_consts : ∀ p ∈ ownEL, p ∈ consts_1 := by decide +kernel
theorem own_words : ∀ d ∈ StrChars.Road.words, d ∈ tables_1 := by decide +kernel
theorem own_up {c : Int32} (h : ¬ (255 : Int32) < c) : ¬ (65535 : Int32) < c := by
  rw [Int32.lt_iff_toInt_lt] at h ⊢
  have e0 : (255 : Int32).toInt = 255 := rfl
  have e1 : (65535 : Int32).toInt = 65535 := rfl
  omega
theorem own_m255 (x : Int32) : ¬ (x &&& 255) < 0 ∧ ¬ (255 : Int32) < (x &&& 255) := by
  have q := c_mask x 255 8 (by decide) (by decide)
  have e0 : (0 : Int32).toInt = 0 := rfl
  have e1 : (255 : Int32).toInt = 255 := rfl
  rw [Int32.lt_iff_toInt_lt, Int32.lt_iff_toInt_lt]; omega
theorem own_nar255 (x : Int32) : nar .char (x &&& 255) = x &&& 255 := i2c_mask x
theorem own_mask3 (x : Int32) : (x &&& 3) = 0 ∨ (x &&& 3) = 1 ∨ (x &&& 3) = 2 ∨ (x &&& 3) = 3 := by
  have q := c_mask x 3 2 (by decide) (by decide)
  have r : (x &&& 3).toInt = 0 ∨ (x &&& 3).toInt = 1 ∨ (x &&& 3).toInt = 2 ∨ (x &&& 3).toInt = 3 := by omega
  rcases r with r | r | r | r
  · exact Or.inl (Int32.toInt_inj.mp r)
  · exact Or.inr (Or.inl (Int32.toInt_inj.mp r))
  · exact Or.inr (Or.inr (Or.inl (Int32.toInt_inj.mp r)))
  · exact Or.inr (Or.inr (Or.inr (Int32.toInt_inj.mp r)))
theorem own_rem (y : Int32) (k : Int32) (h : 0 ≤ y.toInt) (hk : 0 < k.toInt) : (y - y / k * k).toInt = y.toInt % k.toInt := by
  have d : (y / k).toInt = y.toInt / k.toInt := by
    rw [Int32.toInt_div, Int.tdiv_eq_ediv_of_nonneg h]
    have h1 : 0 ≤ y.toInt / k.toInt := Int.ediv_nonneg h (by omega)
    have h2 : y.toInt / k.toInt ≤ y.toInt := Int.ediv_le_self _ h
    have h3 := y.toInt_lt
    rw [Int.bmod_eq_of_le (by omega) (by omega)]
  have e := Int.mul_ediv_add_emod y.toInt k.toInt
  have e' : y.toInt / k.toInt * k.toInt = k.toInt * (y.toInt / k.toInt) := Int.mul_comm _ _
  have m0 := Int.emod_nonneg y.toInt (show k.toInt ≠ 0 by omega)
  have h0 : 0 ≤ k.toInt * (y.toInt / k.toInt) := Int.mul_nonneg (by omega) (Int.ediv_nonneg h (by omega))
  have h3 := y.toInt_lt
  have q : (y / k * k).toInt = y.toInt / k.toInt * k.toInt := by
    rw [Int32.toInt_mul, d, Int.bmod_eq_of_le (by omega) (by omega)]
  rw [Int32.toInt_sub, q, Int.bmod_eq_of_le (by omega) (by omega)]; omega
theorem own_eqI {args : Array Value} {first s : State} {o : Option Outcome} {idx : List Nat} {t : Term} {k : Int32} (h : (Jvm.Cond.eq t (.int k)).value args first o s idx = some true) : t.eval args first o idx s = some (.int k) := by
  obtain ⟨x, y, e1, e2, -, k2⟩ := cmp_v (Or.inl h)
  cases Option.some.inj ((Term.int_eval k).symm.trans e2)
  obtain ⟨z, rfl⟩ := k2
  rw [e1, gotT (Cond.eq_ints e1 e2) h]
theorem own_rf {C : String} {v : Value} (h : v.isRef = true) : narrow (.object C) v = v ∧ fits (.object C) v = true := by cases v <;> first | (cases h; done) | exact ⟨rfl, rfl⟩
theorem d1_0 : decode method_2_code 0 = .ok (.iload_n 0, 1) := by decide +kernel
theorem d1_1 : decode method_2_code 1 = .ok (.ldc 7, 2) := by decide +kernel
theorem d1_3 : decode method_2_code 3 = .ok (.iand, 1) := by decide +kernel
theorem d1_4 : decode method_2_code 4 = .ok (.bipush 14, 2) := by decide +kernel
theorem d1_6 : decode method_2_code 6 = .ok (.irem, 1) := by decide +kernel
theorem d1_7 : decode method_2_code 7 = .ok (.istore_n 1, 1) := by decide +kernel
theorem d1_8 : decode method_2_code 8 = .ok (.iload_n 1, 1) := by decide +kernel
theorem d1_9 : decode method_2_code 9 = .ok (.ifCond .ne 7, 3) := by decide +kernel
theorem d1_12 : decode method_2_code 12 = .ok (.getstatic 8, 3) := by decide +kernel
theorem d1_15 : decode method_2_code 15 = .ok (.areturn, 1) := by decide +kernel
theorem d1_16 : decode method_2_code 16 = .ok (.iload_n 1, 1) := by decide +kernel
theorem d1_17 : decode method_2_code 17 = .ok (.iconst 1, 1) := by decide +kernel
theorem d1_18 : decode method_2_code 18 = .ok (.if_icmp .ne 7, 3) := by decide +kernel
theorem d1_21 : decode method_2_code 21 = .ok (.getstatic 14, 3) := by decide +kernel
theorem d1_24 : decode method_2_code 24 = .ok (.areturn, 1) := by decide +kernel
theorem d1_25 : decode method_2_code 25 = .ok (.iload_n 1, 1) := by decide +kernel
theorem d1_26 : decode method_2_code 26 = .ok (.iconst 2, 1) := by decide +kernel
theorem d1_27 : decode method_2_code 27 = .ok (.if_icmp .ne 7, 3) := by decide +kernel
theorem d1_30 : decode method_2_code 30 = .ok (.getstatic 17, 3) := by decide +kernel
theorem d1_33 : decode method_2_code 33 = .ok (.areturn, 1) := by decide +kernel
theorem d1_34 : decode method_2_code 34 = .ok (.iload_n 1, 1) := by decide +kernel
theorem d1_35 : decode method_2_code 35 = .ok (.iconst 3, 1) := by decide +kernel
theorem d1_36 : decode method_2_code 36 = .ok (.if_icmp .ne 7, 3) := by decide +kernel
theorem d1_39 : decode method_2_code 39 = .ok (.getstatic 20, 3) := by decide +kernel
theorem d1_42 : decode method_2_code 42 = .ok (.areturn, 1) := by decide +kernel
theorem d1_43 : decode method_2_code 43 = .ok (.iload_n 1, 1) := by decide +kernel
theorem d1_44 : decode method_2_code 44 = .ok (.iconst 4, 1) := by decide +kernel
theorem d1_45 : decode method_2_code 45 = .ok (.if_icmp .ne 7, 3) := by decide +kernel
theorem d1_48 : decode method_2_code 48 = .ok (.getstatic 23, 3) := by decide +kernel
theorem d1_51 : decode method_2_code 51 = .ok (.areturn, 1) := by decide +kernel
theorem d1_52 : decode method_2_code 52 = .ok (.iload_n 1, 1) := by decide +kernel
theorem d1_53 : decode method_2_code 53 = .ok (.iconst 5, 1) := by decide +kernel
theorem d1_54 : decode method_2_code 54 = .ok (.if_icmp .ne 7, 3) := by decide +kernel
theorem d1_57 : decode method_2_code 57 = .ok (.getstatic 26, 3) := by decide +kernel
theorem d1_60 : decode method_2_code 60 = .ok (.areturn, 1) := by decide +kernel
theorem d1_61 : decode method_2_code 61 = .ok (.iload_n 1, 1) := by decide +kernel
theorem d1_62 : decode method_2_code 62 = .ok (.bipush 6, 2) := by decide +kernel
theorem d1_64 : decode method_2_code 64 = .ok (.if_icmp .ne 7, 3) := by decide +kernel
theorem d1_67 : decode method_2_code 67 = .ok (.getstatic 29, 3) := by decide +kernel
theorem d1_70 : decode method_2_code 70 = .ok (.areturn, 1) := by decide +kernel
theorem d1_71 : decode method_2_code 71 = .ok (.iload_n 1, 1) := by decide +kernel
theorem d1_72 : decode method_2_code 72 = .ok (.bipush 7, 2) := by decide +kernel
theorem d1_74 : decode method_2_code 74 = .ok (.if_icmp .ne 7, 3) := by decide +kernel
theorem d1_77 : decode method_2_code 77 = .ok (.getstatic 32, 3) := by decide +kernel
theorem d1_80 : decode method_2_code 80 = .ok (.areturn, 1) := by decide +kernel
theorem d1_81 : decode method_2_code 81 = .ok (.iload_n 1, 1) := by decide +kernel
theorem d1_82 : decode method_2_code 82 = .ok (.bipush 8, 2) := by decide +kernel
theorem d1_84 : decode method_2_code 84 = .ok (.if_icmp .ne 7, 3) := by decide +kernel
theorem d1_87 : decode method_2_code 87 = .ok (.getstatic 35, 3) := by decide +kernel
theorem d1_90 : decode method_2_code 90 = .ok (.areturn, 1) := by decide +kernel
theorem d1_91 : decode method_2_code 91 = .ok (.iload_n 1, 1) := by decide +kernel
theorem d1_92 : decode method_2_code 92 = .ok (.bipush 9, 2) := by decide +kernel
theorem d1_94 : decode method_2_code 94 = .ok (.if_icmp .ne 7, 3) := by decide +kernel
theorem d1_97 : decode method_2_code 97 = .ok (.getstatic 38, 3) := by decide +kernel
theorem d1_100 : decode method_2_code 100 = .ok (.areturn, 1) := by decide +kernel
theorem d1_101 : decode method_2_code 101 = .ok (.iload_n 1, 1) := by decide +kernel
theorem d1_102 : decode method_2_code 102 = .ok (.bipush 10, 2) := by decide +kernel
theorem d1_104 : decode method_2_code 104 = .ok (.if_icmp .ne 7, 3) := by decide +kernel
theorem d1_107 : decode method_2_code 107 = .ok (.getstatic 41, 3) := by decide +kernel
theorem d1_110 : decode method_2_code 110 = .ok (.areturn, 1) := by decide +kernel
theorem d1_111 : decode method_2_code 111 = .ok (.iload_n 1, 1) := by decide +kernel
theorem d1_112 : decode method_2_code 112 = .ok (.bipush 11, 2) := by decide +kernel
theorem d1_114 : decode method_2_code 114 = .ok (.if_icmp .ne 7, 3) := by decide +kernel
theorem d1_117 : decode method_2_code 117 = .ok (.getstatic 44, 3) := by decide +kernel
theorem d1_120 : decode method_2_code 120 = .ok (.areturn, 1) := by decide +kernel
theorem d1_121 : decode method_2_code 121 = .ok (.iload_n 1, 1) := by decide +kernel
theorem d1_122 : decode method_2_code 122 = .ok (.bipush 12, 2) := by decide +kernel
theorem d1_124 : decode method_2_code 124 = .ok (.if_icmp .ne 7, 3) := by decide +kernel
theorem d1_127 : decode method_2_code 127 = .ok (.getstatic 47, 3) := by decide +kernel
theorem d1_130 : decode method_2_code 130 = .ok (.areturn, 1) := by decide +kernel
theorem d1_131 : decode method_2_code 131 = .ok (.getstatic 50, 3) := by decide +kernel
theorem d1_134 : decode method_2_code 134 = .ok (.areturn, 1) := by decide +kernel
theorem d2_0 : decode method_3_code 0 = .ok (.iload_n 0, 1) := by decide +kernel
theorem d2_1 : decode method_3_code 1 = .ok (.iconst 3, 1) := by decide +kernel
theorem d2_2 : decode method_3_code 2 = .ok (.iand, 1) := by decide +kernel
theorem d2_3 : decode method_3_code 3 = .ok (.istore 4, 2) := by decide +kernel
theorem d2_5 : decode method_3_code 5 = .ok (.iload_n 1, 1) := by decide +kernel
theorem d2_6 : decode method_3_code 6 = .ok (.sipush 255, 3) := by decide +kernel
theorem d2_9 : decode method_3_code 9 = .ok (.iand, 1) := by decide +kernel
theorem d2_10 : decode method_3_code 10 = .ok (.i2c, 1) := by decide +kernel
theorem d2_11 : decode method_3_code 11 = .ok (.istore 5, 2) := by decide +kernel
theorem d2_13 : decode method_3_code 13 = .ok (.iload_n 2, 1) := by decide +kernel
theorem d2_14 : decode method_3_code 14 = .ok (.sipush 255, 3) := by decide +kernel
theorem d2_17 : decode method_3_code 17 = .ok (.iand, 1) := by decide +kernel
theorem d2_18 : decode method_3_code 18 = .ok (.i2c, 1) := by decide +kernel
theorem d2_19 : decode method_3_code 19 = .ok (.istore 6, 2) := by decide +kernel
theorem d2_21 : decode method_3_code 21 = .ok (.iload_n 3, 1) := by decide +kernel
theorem d2_22 : decode method_3_code 22 = .ok (.sipush 255, 3) := by decide +kernel
theorem d2_25 : decode method_3_code 25 = .ok (.iand, 1) := by decide +kernel
theorem d2_26 : decode method_3_code 26 = .ok (.i2c, 1) := by decide +kernel
theorem d2_27 : decode method_3_code 27 = .ok (.istore 7, 2) := by decide +kernel
theorem d2_29 : decode method_3_code 29 = .ok (.iload 4, 2) := by decide +kernel
theorem d2_31 : decode method_3_code 31 = .ok (.ifCond .ne 14, 3) := by decide +kernel
theorem d2_34 : decode method_3_code 34 = .ok (.new 53, 3) := by decide +kernel
theorem d2_37 : decode method_3_code 37 = .ok (.dup, 1) := by decide +kernel
theorem d2_38 : decode method_3_code 38 = .ok (.iconst 0, 1) := by decide +kernel
theorem d2_39 : decode method_3_code 39 = .ok (.newarray .char, 2) := by decide +kernel
theorem d2_41 : decode method_3_code 41 = .ok (.invokespecial 55, 3) := by decide +kernel
theorem d2_44 : decode method_3_code 44 = .ok (.areturn, 1) := by decide +kernel
theorem d2_45 : decode method_3_code 45 = .ok (.iload 4, 2) := by decide +kernel
theorem d2_47 : decode method_3_code 47 = .ok (.iconst 1, 1) := by decide +kernel
theorem d2_48 : decode method_3_code 48 = .ok (.if_icmp .ne 24, 3) := by decide +kernel
theorem d2_51 : decode method_3_code 51 = .ok (.iconst 1, 1) := by decide +kernel
theorem d2_52 : decode method_3_code 52 = .ok (.newarray .char, 2) := by decide +kernel
theorem d2_54 : decode method_3_code 54 = .ok (.astore 8, 2) := by decide +kernel
theorem d2_56 : decode method_3_code 56 = .ok (.aload 8, 2) := by decide +kernel
theorem d2_58 : decode method_3_code 58 = .ok (.iconst 0, 1) := by decide +kernel
theorem d2_59 : decode method_3_code 59 = .ok (.iload 5, 2) := by decide +kernel
theorem d2_61 : decode method_3_code 61 = .ok (.castore, 1) := by decide +kernel
theorem d2_62 : decode method_3_code 62 = .ok (.new 53, 3) := by decide +kernel
theorem d2_65 : decode method_3_code 65 = .ok (.dup, 1) := by decide +kernel
theorem d2_66 : decode method_3_code 66 = .ok (.aload 8, 2) := by decide +kernel
theorem d2_68 : decode method_3_code 68 = .ok (.invokespecial 55, 3) := by decide +kernel
theorem d2_71 : decode method_3_code 71 = .ok (.areturn, 1) := by decide +kernel
theorem d2_72 : decode method_3_code 72 = .ok (.iload 4, 2) := by decide +kernel
theorem d2_74 : decode method_3_code 74 = .ok (.iconst 2, 1) := by decide +kernel
theorem d2_75 : decode method_3_code 75 = .ok (.if_icmp .ne 30, 3) := by decide +kernel
theorem d2_78 : decode method_3_code 78 = .ok (.iconst 2, 1) := by decide +kernel
theorem d2_79 : decode method_3_code 79 = .ok (.newarray .char, 2) := by decide +kernel
theorem d2_81 : decode method_3_code 81 = .ok (.astore 8, 2) := by decide +kernel
theorem d2_83 : decode method_3_code 83 = .ok (.aload 8, 2) := by decide +kernel
theorem d2_85 : decode method_3_code 85 = .ok (.iconst 0, 1) := by decide +kernel
theorem d2_86 : decode method_3_code 86 = .ok (.iload 5, 2) := by decide +kernel
theorem d2_88 : decode method_3_code 88 = .ok (.castore, 1) := by decide +kernel
theorem d2_89 : decode method_3_code 89 = .ok (.aload 8, 2) := by decide +kernel
theorem d2_91 : decode method_3_code 91 = .ok (.iconst 1, 1) := by decide +kernel
theorem d2_92 : decode method_3_code 92 = .ok (.iload 6, 2) := by decide +kernel
theorem d2_94 : decode method_3_code 94 = .ok (.castore, 1) := by decide +kernel
theorem d2_95 : decode method_3_code 95 = .ok (.new 53, 3) := by decide +kernel
theorem d2_98 : decode method_3_code 98 = .ok (.dup, 1) := by decide +kernel
theorem d2_99 : decode method_3_code 99 = .ok (.aload 8, 2) := by decide +kernel
theorem d2_101 : decode method_3_code 101 = .ok (.invokespecial 55, 3) := by decide +kernel
theorem d2_104 : decode method_3_code 104 = .ok (.areturn, 1) := by decide +kernel
theorem d2_105 : decode method_3_code 105 = .ok (.iconst 3, 1) := by decide +kernel
theorem d2_106 : decode method_3_code 106 = .ok (.newarray .char, 2) := by decide +kernel
theorem d2_108 : decode method_3_code 108 = .ok (.astore 8, 2) := by decide +kernel
theorem d2_110 : decode method_3_code 110 = .ok (.aload 8, 2) := by decide +kernel
theorem d2_112 : decode method_3_code 112 = .ok (.iconst 0, 1) := by decide +kernel
theorem d2_113 : decode method_3_code 113 = .ok (.iload 5, 2) := by decide +kernel
theorem d2_115 : decode method_3_code 115 = .ok (.castore, 1) := by decide +kernel
theorem d2_116 : decode method_3_code 116 = .ok (.aload 8, 2) := by decide +kernel
theorem d2_118 : decode method_3_code 118 = .ok (.iconst 1, 1) := by decide +kernel
theorem d2_119 : decode method_3_code 119 = .ok (.iload 6, 2) := by decide +kernel
theorem d2_121 : decode method_3_code 121 = .ok (.castore, 1) := by decide +kernel
theorem d2_122 : decode method_3_code 122 = .ok (.aload 8, 2) := by decide +kernel
theorem d2_124 : decode method_3_code 124 = .ok (.iconst 2, 1) := by decide +kernel
theorem d2_125 : decode method_3_code 125 = .ok (.iload 7, 2) := by decide +kernel
theorem d2_127 : decode method_3_code 127 = .ok (.castore, 1) := by decide +kernel
theorem d2_128 : decode method_3_code 128 = .ok (.new 53, 3) := by decide +kernel
theorem d2_131 : decode method_3_code 131 = .ok (.dup, 1) := by decide +kernel
theorem d2_132 : decode method_3_code 132 = .ok (.aload 8, 2) := by decide +kernel
theorem d2_134 : decode method_3_code 134 = .ok (.invokespecial 55, 3) := by decide +kernel
theorem d2_137 : decode method_3_code 137 = .ok (.areturn, 1) := by decide +kernel
theorem d3_0 : decode jdk_42_method_3_code 0 = .ok (.aload_n 0, 1) := by decide +kernel
theorem d3_1 : decode jdk_42_method_3_code 1 = .ok (.aload_n 1, 1) := by decide +kernel
theorem d3_2 : decode jdk_42_method_3_code 2 = .ok (.iconst 0, 1) := by decide +kernel
theorem d3_3 : decode jdk_42_method_3_code 3 = .ok (.aload_n 1, 1) := by decide +kernel
theorem d3_4 : decode jdk_42_method_3_code 4 = .ok (.arraylength, 1) := by decide +kernel
theorem d3_5 : decode jdk_42_method_3_code 5 = .ok (.aconst_null, 1) := by decide +kernel
theorem d3_6 : decode jdk_42_method_3_code 6 = .ok (.invokespecial 27, 3) := by decide +kernel
theorem d3_9 : decode jdk_42_method_3_code 9 = .ok (.return_, 1) := by decide +kernel
theorem d4_0 : decode jdk_42_method_149_code 0 = .ok (.aload_n 0, 1) := by decide +kernel
theorem d4_1 : decode jdk_42_method_149_code 1 = .ok (.invokespecial 1, 3) := by decide +kernel
theorem d4_4 : decode jdk_42_method_149_code 4 = .ok (.iload_n 3, 1) := by decide +kernel
theorem d4_5 : decode jdk_42_method_149_code 5 = .ok (.ifCond .ne 22, 3) := by decide +kernel
theorem d4_8 : decode jdk_42_method_149_code 8 = .ok (.aload_n 0, 1) := by decide +kernel
theorem d4_9 : decode jdk_42_method_149_code 9 = .ok (.ldc 7, 2) := by decide +kernel
theorem d4_11 : decode jdk_42_method_149_code 11 = .ok (.getfield 9, 3) := by decide +kernel
theorem d4_14 : decode jdk_42_method_149_code 14 = .ok (.putfield 9, 3) := by decide +kernel
theorem d4_17 : decode jdk_42_method_149_code 17 = .ok (.aload_n 0, 1) := by decide +kernel
theorem d4_18 : decode jdk_42_method_149_code 18 = .ok (.ldc 7, 2) := by decide +kernel
theorem d4_20 : decode jdk_42_method_149_code 20 = .ok (.getfield 15, 3) := by decide +kernel
theorem d4_23 : decode jdk_42_method_149_code 23 = .ok (.putfield 15, 3) := by decide +kernel
theorem d4_26 : decode jdk_42_method_149_code 26 = .ok (.return_, 1) := by decide +kernel
theorem d9_0 : decode prog_24_method_1_code 0 = .ok (.aload_n 0, 1) := by decide +kernel
theorem d9_1 : decode prog_24_method_1_code 1 = .ok (.aload_n 2, 1) := by decide +kernel
theorem d9_2 : decode prog_24_method_1_code 2 = .ok (.invokespecial 1, 3) := by decide +kernel
theorem d9_5 : decode prog_24_method_1_code 5 = .ok (.aload_n 0, 1) := by decide +kernel
theorem d9_6 : decode prog_24_method_1_code 6 = .ok (.aload_n 1, 1) := by decide +kernel
theorem d9_7 : decode prog_24_method_1_code 7 = .ok (.putfield 7, 3) := by decide +kernel
theorem d9_10 : decode prog_24_method_1_code 10 = .ok (.return_, 1) := by decide +kernel
theorem d10_0 : decode jdk_59_method_2_code 0 = .ok (.aload_n 0, 1) := by decide +kernel
theorem d10_1 : decode jdk_59_method_2_code 1 = .ok (.aload_n 1, 1) := by decide +kernel
theorem d10_2 : decode jdk_59_method_2_code 2 = .ok (.invokespecial 7, 3) := by decide +kernel
theorem d10_5 : decode jdk_59_method_2_code 5 = .ok (.return_, 1) := by decide +kernel
theorem d11_0 : decode jdk_78_method_2_code 0 = .ok (.aload_n 0, 1) := by decide +kernel
theorem d11_1 : decode jdk_78_method_2_code 1 = .ok (.invokespecial 1, 3) := by decide +kernel
theorem d11_4 : decode jdk_78_method_2_code 4 = .ok (.aload_n 0, 1) := by decide +kernel
theorem d11_5 : decode jdk_78_method_2_code 5 = .ok (.aload_n 0, 1) := by decide +kernel
theorem d11_6 : decode jdk_78_method_2_code 6 = .ok (.putfield 7, 3) := by decide +kernel
theorem d11_9 : decode jdk_78_method_2_code 9 = .ok (.aload_n 0, 1) := by decide +kernel
theorem d11_10 : decode jdk_78_method_2_code 10 = .ok (.getstatic 13, 3) := by decide +kernel
theorem d11_13 : decode jdk_78_method_2_code 13 = .ok (.putfield 17, 3) := by decide +kernel
theorem d11_16 : decode jdk_78_method_2_code 16 = .ok (.aload_n 0, 1) := by decide +kernel
theorem d11_17 : decode jdk_78_method_2_code 17 = .ok (.getstatic 20, 3) := by decide +kernel
theorem d11_20 : decode jdk_78_method_2_code 20 = .ok (.putfield 24, 3) := by decide +kernel
theorem d11_23 : decode jdk_78_method_2_code 23 = .ok (.aload_n 0, 1) := by decide +kernel
theorem d11_24 : decode jdk_78_method_2_code 24 = .ok (.invokevirtual 27, 3) := by decide +kernel
theorem d11_27 : decode jdk_78_method_2_code 27 = .ok (.pop, 1) := by decide +kernel
theorem d11_28 : decode jdk_78_method_2_code 28 = .ok (.aload_n 0, 1) := by decide +kernel
theorem d11_29 : decode jdk_78_method_2_code 29 = .ok (.aload_n 1, 1) := by decide +kernel
theorem d11_30 : decode jdk_78_method_2_code 30 = .ok (.putfield 31, 3) := by decide +kernel
theorem d11_33 : decode jdk_78_method_2_code 33 = .ok (.return_, 1) := by decide +kernel
theorem d14_0 : decode prog_24_method_3_code 0 = .ok (.new 16, 3) := by decide +kernel
theorem d14_3 : decode prog_24_method_3_code 3 = .ok (.dup, 1) := by decide +kernel
theorem d14_4 : decode prog_24_method_3_code 4 = .ok (.aload_n 0, 1) := by decide +kernel
theorem d14_5 : decode prog_24_method_3_code 5 = .ok (.getfield 7, 3) := by decide +kernel
theorem d14_8 : decode prog_24_method_3_code 8 = .ok (.aload_n 0, 1) := by decide +kernel
theorem d14_9 : decode prog_24_method_3_code 9 = .ok (.invokevirtual 18, 3) := by decide +kernel
theorem d14_12 : decode prog_24_method_3_code 12 = .ok (.invokespecial 22, 3) := by decide +kernel
theorem d14_15 : decode prog_24_method_3_code 15 = .ok (.areturn, 1) := by decide +kernel
theorem d15_0 : decode jdk_78_method_6_code 0 = .ok (.aload_n 0, 1) := by decide +kernel
theorem d15_1 : decode jdk_78_method_6_code 1 = .ok (.getfield 31, 3) := by decide +kernel
theorem d15_4 : decode jdk_78_method_6_code 4 = .ok (.areturn, 1) := by decide +kernel
theorem d16_0 : decode prog_21_method_1_code 0 = .ok (.aload_n 0, 1) := by decide +kernel
theorem d16_1 : decode prog_21_method_1_code 1 = .ok (.invokespecial 1, 3) := by decide +kernel
theorem d16_4 : decode prog_21_method_1_code 4 = .ok (.aload_n 0, 1) := by decide +kernel
theorem d16_5 : decode prog_21_method_1_code 5 = .ok (.aload_n 1, 1) := by decide +kernel
theorem d16_6 : decode prog_21_method_1_code 6 = .ok (.putfield 7, 3) := by decide +kernel
theorem d16_9 : decode prog_21_method_1_code 9 = .ok (.aload_n 0, 1) := by decide +kernel
theorem d16_10 : decode prog_21_method_1_code 10 = .ok (.aload_n 2, 1) := by decide +kernel
theorem d16_11 : decode prog_21_method_1_code 11 = .ok (.putfield 13, 3) := by decide +kernel
theorem d16_14 : decode prog_21_method_1_code 14 = .ok (.return_, 1) := by decide +kernel
theorem d17_0 : decode jdk_30_method_1_code 0 = .ok (.aload_n 0, 1) := by decide +kernel
theorem d17_1 : decode jdk_30_method_1_code 1 = .ok (.invokespecial 1, 3) := by decide +kernel
theorem d17_4 : decode jdk_30_method_1_code 4 = .ok (.return_, 1) := by decide +kernel
theorem d18_0 : decode prog_21_method_6_code 0 = .ok (.aload_n 0, 1) := by decide +kernel
theorem d18_1 : decode prog_21_method_6_code 1 = .ok (.getfield 13, 3) := by decide +kernel
theorem d18_4 : decode prog_21_method_6_code 4 = .ok (.areturn, 1) := by decide +kernel
theorem d19_0 : decode prog_21_method_5_code 0 = .ok (.aload_n 0, 1) := by decide +kernel
theorem d19_1 : decode prog_21_method_5_code 1 = .ok (.getfield 7, 3) := by decide +kernel
theorem d19_4 : decode prog_21_method_5_code 4 = .ok (.areturn, 1) := by decide +kernel
theorem d20_0 : decode jdk_42_method_66_code 0 = .ok (.aload_n 0, 1) := by decide +kernel
theorem d20_1 : decode jdk_42_method_66_code 1 = .ok (.aload_n 1, 1) := by decide +kernel
theorem d20_2 : decode jdk_42_method_66_code 2 = .ok (.if_acmp .ne 5, 3) := by decide +kernel
theorem d20_5 : decode jdk_42_method_66_code 5 = .ok (.iconst 1, 1) := by decide +kernel
theorem d20_6 : decode jdk_42_method_66_code 6 = .ok (.ireturn, 1) := by decide +kernel
theorem pn_java_lang_String : plainName "java/lang/String" = true := by first | (simp [plainName, overriddenIn]; done) | decide +kernel
theorem pd_ACIILjava_lang_Void_R_V : parseMethodDescriptor "([CIILjava/lang/Void;)V" = some ⟨[(.array .char), .int, .int, (.object "java/lang/Void")], none⟩ := by decide +kernel
theorem pn_com_example_reticolo_reticolo_service_XdsExceptionErrorPinLaw : plainName "com/example/reticolo/reticolo/service/XdsExceptionErrorPinLaw" = true := by first | (simp [plainName, overriddenIn]; done) | decide +kernel
theorem pd_AC_R_V : parseMethodDescriptor "([C)V" = some ⟨[(.array .char)], none⟩ := by decide +kernel
theorem pn_java_lang_Throwable : plainName "java/lang/Throwable" = true := by first | (simp [plainName, overriddenIn]; done) | decide +kernel
theorem pn_java_lang_Exception : plainName "java/lang/Exception" = true := by first | (simp [plainName, overriddenIn]; done) | decide +kernel
theorem pd_Ljava_lang_String_R_V : parseMethodDescriptor "(Ljava/lang/String;)V" = some ⟨[(.object "java/lang/String")], none⟩ := by decide +kernel
theorem pn_com_example_reticolo_reticolo_service_XdsException : plainName "com/example/reticolo/reticolo/service/XdsException" = true := by first | (simp [plainName, overriddenIn]; done) | decide +kernel
theorem pn_java_lang_Record : plainName "java/lang/Record" = true := by first | (simp [plainName, overriddenIn]; done) | decide +kernel
theorem pn_com_example_reticolo_reticolo_model_XdsError : plainName "com/example/reticolo/reticolo/model/XdsError" = true := by first | (simp [plainName, overriddenIn]; done) | decide +kernel
theorem pd__R_V : parseMethodDescriptor "()V" = some ⟨[], none⟩ := by decide +kernel
theorem pd__R_Ljava_lang_String : parseMethodDescriptor "()Ljava/lang/String;" = some ⟨[], some (.object "java/lang/String")⟩ := by decide +kernel
theorem pd_Lcom_example_reticolo_reticolo_model_XdsErrorCodeLjava_lang_String_R_V : parseMethodDescriptor "(Lcom/example/reticolo/reticolo/model/XdsErrorCode;Ljava/lang/String;)V" = some ⟨[(.object "com/example/reticolo/reticolo/model/XdsErrorCode"), (.object "java/lang/String")], none⟩ := by decide +kernel
theorem pd_I_R_Lcom_example_reticolo_reticolo_model_XdsErrorCode : parseMethodDescriptor "(I)Lcom/example/reticolo/reticolo/model/XdsErrorCode;" = some ⟨[.int], some (.object "com/example/reticolo/reticolo/model/XdsErrorCode")⟩ := by decide +kernel
theorem pd_IIII_R_Ljava_lang_String : parseMethodDescriptor "(IIII)Ljava/lang/String;" = some ⟨[.int, .int, .int, .int], some (.object "java/lang/String")⟩ := by decide +kernel
theorem pd__R_Lcom_example_reticolo_reticolo_model_XdsError : parseMethodDescriptor "()Lcom/example/reticolo/reticolo/model/XdsError;" = some ⟨[], some (.object "com/example/reticolo/reticolo/model/XdsError")⟩ := by decide +kernel
theorem pd__R_Lcom_example_reticolo_reticolo_model_XdsErrorCode : parseMethodDescriptor "()Lcom/example/reticolo/reticolo/model/XdsErrorCode;" = some ⟨[], some (.object "com/example/reticolo/reticolo/model/XdsErrorCode")⟩ := by decide +kernel
theorem pd_Ljava_lang_Object_R_Z : parseMethodDescriptor "(Ljava/lang/Object;)Z" = some ⟨[(.object "java/lang/Object")], some .boolean⟩ := by decide +kernel
def QE (Z : State) (x : Addr) (h0 : Heap) (v : Option Value) (h : Heap) (L : List Loc) : Prop := v = none ∧ W.Frw [x] h0.size L ∧ Keep h0 h [x] ∧ W.Str Z h x []
abbrev rmE4 : Room := ({ frames := 1, cells := 4, slots := 8, locals := 14 } : Room)
set_option maxRecDepth 65536 in
set_option maxHeartbeats 40000000 in
theorem nw4 (l : Launch) (Z : State) (a0 : Array Value) (hw : ∀ d ∈ tables_1, d.before a0 Z = true) (wS : ∀ a ∈ Bundle.stringAtoms, a.before a0 Z = true) (hEL : EW Z a0 ownEL) (x b : Addr) (o : Int32) (h0 : Heap) (E0 : Exa Z h0 x "java/lang/String") (v0 c0 : Value) (F0 : Fld Z h0 x "java/lang/String" "value" "[B" v0) (C0 : Fld Z h0 x "java/lang/String" "coder" "B" c0) : W.MetW l Z ownEL (⟨"java/lang/String", "<init>", "([CIILjava/lang/Void;)V"⟩ : MethodName) jdk_42_method_149_code 6 none [] rmE4 #[.ref x, .ref b, .int o, .int 0, .null] [x] h0 (QE Z x h0) := by
  refine W.MetW.mk (ls0 := #[.val (.ref x), .val (.ref b), .val (.int o), .val (.int (0 : Int32)), .val .null, .unset]) [x] (plainFor_of_name pn_java_lang_String) (fun m => by first | (simp [entryFrame, mkF, argsToLocals, Value.category]; done) | rfl) ?_
  intro p e s m below meth c s₁ hml hret hnm hlk hss P0
  show W.Go p.tables e below _ (s₁.setTop (mkF m 0 #[.val (.ref x), .val (.ref b), .val (.int o), .val (.int (0 : Int32)), .val .null, .unset] []))
  refine W.g_aloadN (pc1 := 1) P0.q d4_0 rfl rfl rfl ?_
  refine P0.initO (pc1 := 4) (W := 0) (wd hw (k := 22) rfl) (wd hw (k := 23) rfl) (wd hw (k := 24) rfl) (by rw [hml]; rfl) (by decide) (Nat.le_of_eq rfl) (by decide) d4_1 rfl ?_
  intro T101 P101
  refine W.g_iloadN (pc1 := 5) P101.q d4_4 rfl rfl ?_
  refine W.g_ifN (pc2 := 8) P101.q d4_5 rfl (by decide) ?_
  refine W.g_aloadN (pc1 := 9) P101.q d4_8 rfl rfl rfl ?_
  refine P101.ldcR (pc1 := 11) (n := 0) (vs := []) (z := 0) (wd hw (k := 141) rfl) wS hEL (by decide) ⟨by decide, rfl⟩ (by decide) (by decide) (by decide) (by decide) (by decide) (by decide) d4_9 rfl ?_
  intro a102 T102 h102 t102 k102 P102 E102 R102 A102 C102 F102 V102 N102 L102
  have S102 := R102.safe E0.lt (hss x (List.mem_singleton.mpr rfl))
  refine P102.getF (host := "") (pc1 := 14) (Or.inl (wd hw (k := 39) rfl)) Via.refl F102 d4_11 rfl ?_
  intro T103 P103
  refine P103.putF (host := "") (pc1 := 17) (Or.inl (wd hw (k := 39) rfl)) Via.refl (F0.ext E102) (E0.ext E102) (Or.inr ⟨(wd hw (k := 40) rfl), rfl, hnm⟩) (wd hw (k := 13) rfl) (ty := (.array .byte)) (by decide) rfl rfl (Or.inl (List.mem_singleton.mpr rfl)) S102 d4_14 rfl ?_
  intro T104 h104 P104 W104
  have Sw104 : Safe Z ownEL T102.vm h104 x := Safe.wr W104 S102 P102.chv S102
  have Ca104 := (C0.ext E102).other W104 (Or.inr (slot_ne (t := .byte) (t' := .array .byte) (Or.inr (wd hw (k := 38) rfl)) (Or.inr (wd hw (k := 40) rfl)) (by decide) (by decide) (by decide)))
  have Fa104 := (F0.ext E102).same W104
  have Ea104 := (E0.ext E102).wr W104
  have Va104 := V102.other W104 (Ne.symm (N102 x S102).2)
  refine W.g_aloadN (pc1 := 18) P104.q d4_17 rfl rfl rfl ?_
  refine P104.ldcR (pc1 := 20) (n := 0) (vs := []) (z := 0) (wd hw (k := 141) rfl) wS hEL (by decide) ⟨by decide, rfl⟩ (by decide) (by decide) (by decide) (by decide) (by decide) (by decide) d4_18 rfl ?_
  intro a105 T105 h105 t105 k105 P105 E105 R105 A105 C105 F105 V105 N105 L105
  have S105 := R105.safe Ea104.lt Sw104
  refine P105.getF (host := "") (pc1 := 23) (Or.inl (wd hw (k := 37) rfl)) Via.refl C105 d4_20 rfl ?_
  intro T106 P106
  refine P106.putF (host := "") (pc1 := 26) (Or.inl (wd hw (k := 37) rfl)) Via.refl (Ca104.ext E105) (Ea104.ext E105) (Or.inr ⟨(wd hw (k := 38) rfl), rfl, hnm⟩) (wd hw (k := 13) rfl) (ty := .byte) (by decide) rfl rfl (Or.inl (List.mem_singleton.mpr rfl)) S105 d4_23 rfl ?_
  intro T107 h107 P107 W107
  have Fz := (Fa104.ext E105).other W107 (Or.inr (slot_ne (t := .array .byte) (t' := .byte) (Or.inr (wd hw (k := 40) rfl)) (Or.inr (wd hw (k := 38) rfl)) (by decide) (by decide) (by decide)))
  have Cz := (Ca104.ext E105).same W107
  have Ez := (Ea104.ext E105).wr W107
  have hne : t102 ≠ x := Ne.symm (N102 x S102).2
  have Vz := (Va104.ext E105).other W107 hne
  exact P107.retW hEL hlk hret d4_26 (by decide) (by decide) ⟨rfl, P107.fr, P107.keep, ⟨t102, k102, 0, 0, [], Ez, Fz, Cz, Vz, Or.inl ⟨rfl, rfl, rfl, (fun _ q => nomatch q)⟩, (fun _ q => nomatch q), Nat.zero_le _⟩⟩
abbrev rmE1 : Room := ({ frames := 2, cells := 4, slots := 8, locals := 36 } : Room)
set_option maxRecDepth 65536 in
set_option maxHeartbeats 40000000 in
theorem nw1 (l : Launch) (Z : State) (a0 : Array Value) (hw : ∀ d ∈ tables_1, d.before a0 Z = true) (wS : ∀ a ∈ Bundle.stringAtoms, a.before a0 Z = true) (hEL : EW Z a0 ownEL) (x b : Addr) (kb : ClassId) (vs : List Value) (dv : Value) (h0 : Heap) (E0 : Exa Z h0 x "java/lang/String") (v0 c0 : Value) (F0 : Fld Z h0 x "java/lang/String" "value" "[B" v0) (C0 : Fld Z h0 x "java/lang/String" "coder" "B" c0) (V0 : Arv Z h0 b kb .char 0 vs dv) : W.MetW l Z ownEL (⟨"java/lang/String", "<init>", "([C)V"⟩ : MethodName) jdk_42_method_3_code 2 none [] rmE1 #[.ref x, .ref b] [x] h0 (QE Z x h0) := by
  refine W.MetW.mk (ls0 := #[.val (.ref x), .val (.ref b)]) [x] (plainFor_of_name pn_java_lang_String) (fun m => by first | (simp [entryFrame, mkF, argsToLocals, Value.category]; done) | rfl) ?_
  intro p e s m below meth c s₁ hml hret hnm hlk hss P0
  show W.Go p.tables e below _ (s₁.setTop (mkF m 0 #[.val (.ref x), .val (.ref b)] []))
  refine W.g_aloadN (pc1 := 1) P0.q d3_0 rfl rfl rfl ?_
  refine W.g_aloadN (pc1 := 2) P0.q d3_1 rfl rfl rfl ?_
  refine W.g_iconst (pc1 := 3) (v := (0 : Int32)) P0.q d3_2 (by decide) rfl ?_
  refine W.g_aloadN (pc1 := 4) P0.q d3_3 rfl rfl rfl ?_
  refine P0.len (pc1 := 5) V0 d3_4 rfl ?_
  refine W.g_null (pc1 := 6) P0.q d3_5 rfl ?_
  refine P0.callNW (pc1 := 9) rfl (wd hw (k := 18) rfl) (wd hw (k := 19) rfl) (wd hw (k := 21) rfl) (by decide) (W.MetW.pay (W := 0) (nw4 l Z a0 hw wS hEL x b 0 h0 E0 v0 c0 F0 C0) P0 hEL (allS ⟨E0.lt, hss x (List.mem_singleton.mpr rfl)⟩ all0) (wd hw (k := 21) rfl) (wd hw (k := 14) rfl) (by decide) (by decide)) (argsL := [(.ref b), (.int (0 : Int32)), (.int (0 : Int32)), .null]) (st0 := []) (lenOf pd_ACIILjava_lang_Void_R_V rfl) rfl rfl (Nat.le_of_eq rfl) (by rw [hml]; rfl) (by decide) (by decide) (fun _ _ _ q => q.2.1) d3_6 rfl ?_
  intro v108 T108 h108 L108 q108 P108 R108
  obtain ⟨rfl, f108, K108, S108⟩ := q108
  show W.Go p.tables e below _ (T108.setTop (mkF m 9 #[.val (.ref x), .val (.ref b)] []))
  exact P108.retW hEL hlk hret d3_9 (by decide) (by decide) ⟨rfl, P108.fr, P108.keep, S108⟩
abbrev ownCodes : List String := ["MISSING_DOCUMENT", "MISSING_DOCUMENT_METADATA", "NON_IDENTICAL_HASH", "REPOSITORY_METADATA_ERROR", "REGISTRY_METADATA_ERROR", "REPOSITORY_ERROR", "REGISTRY_ERROR", "UNKNOWN_STORED_QUERY", "STORED_QUERY_MISSING_PARAM", "STORED_QUERY_PARAM_NUMBER", "DOCUMENT_UNIQUE_ID_ERROR", "UNKNOWN_REPOSITORY_ID", "UNKNOWN_COMMUNITY", "UNAVAILABLE_COMMUNITY"]
def QP (h0 : Heap) (v : Option Value) (h : Heap) (L : List Loc) : Prop := ∃ a, v = some (.ref a) ∧ L = [] ∧ h0 = h
set_option maxRecDepth 65536 in
set_option maxHeartbeats 40000000 in
theorem c_pick (l : Launch) (Z : State) (a0 : Array Value) (hw : ∀ d ∈ tables_1, d.before a0 Z = true) (sel : Int32) (h0 : Heap) (EZ : Ext Z.heap h0) (cds : ∀ n ∈ ownCodes, ∃ a, Sta Z Z.heap "com/example/reticolo/reticolo/model/XdsErrorCode" n "Lcom/example/reticolo/reticolo/model/XdsErrorCode;" (.ref a)) : W.MetN l Z (⟨"com/example/reticolo/reticolo/service/XdsExceptionErrorPinLaw", "pick", "(I)Lcom/example/reticolo/reticolo/model/XdsErrorCode;"⟩ : MethodName) method_2_code 2 ((Option.some (Jvm.ClassFile.FieldType.object "com/example/reticolo/reticolo/model/XdsErrorCode"))) [] ({ frames := 0, cells := 0, slots := 0, locals := 0 } : Room) #[.int sel]  h0 (QP h0) := by
  refine W.MetN.mk (ls0 := #[.val (.int sel), .unset]) [] (plainFor_of_name pn_com_example_reticolo_reticolo_service_XdsExceptionErrorPinLaw) (fun m => by first | (simp [entryFrame, mkF, argsToLocals, Value.category]; done) | rfl) ?_
  intro p e s m below meth c s₁ hml hret hnm hlk P0
  show W.Go p.tables e below _ (s₁.setTop (mkF m 0 #[.val (.int sel), .unset] []))
  refine W.g_iloadN (pc1 := 1) P0.q d1_0 rfl rfl ?_
  refine P0.ldcI (pc1 := 3) (wd hw (k := 4) rfl) d1_1 rfl ?_
  refine W.g_iand (pc1 := 4) P0.q d1_3 rfl ?_
  refine W.g_bipush (pc1 := 6) (v := (14 : Int32)) P0.q d1_4 (by decide) rfl ?_
  refine W.g_irem (pc1 := 7) P0.q d1_6 (by decide) rfl ?_
  refine W.g_istoreN (pc1 := 8) (ls2 := #[.val (.int sel), .val (.int ((sel &&& (2147483647 : Int32)) - ((sel &&& (2147483647 : Int32)) / (14 : Int32)) * (14 : Int32)))]) P0.q d1_7 rfl rfl ?_
  refine W.g_iloadN (pc1 := 9) P0.q d1_8 rfl rfl ?_
  refine W.g_if (pc1 := 16) (pc2 := 12) P0.q d1_9 (by decide) rfl rfl (fun (c0 : ¬ ((sel &&& (2147483647 : Int32)) - ((sel &&& (2147483647 : Int32)) / (14 : Int32)) * (14 : Int32)) = 0) => ?_) (fun (c0 : ¬ (¬ ((sel &&& (2147483647 : Int32)) - ((sel &&& (2147483647 : Int32)) / (14 : Int32)) * (14 : Int32)) = 0)) => ?_)
  · refine W.g_iloadN (pc1 := 17) P0.q d1_16 rfl rfl ?_
    refine W.g_iconst (pc1 := 18) (v := (1 : Int32)) P0.q d1_17 (by decide) rfl ?_
    refine W.g_cmp (pc1 := 25) (pc2 := 21) P0.q d1_18 (by decide) rfl rfl (fun (c1 : ¬ ((sel &&& (2147483647 : Int32)) - ((sel &&& (2147483647 : Int32)) / (14 : Int32)) * (14 : Int32)) = (1 : Int32)) => ?_) (fun (c1 : ¬ (¬ ((sel &&& (2147483647 : Int32)) - ((sel &&& (2147483647 : Int32)) / (14 : Int32)) * (14 : Int32)) = (1 : Int32))) => ?_)
    · refine W.g_iloadN (pc1 := 26) P0.q d1_25 rfl rfl ?_
      refine W.g_iconst (pc1 := 27) (v := (2 : Int32)) P0.q d1_26 (by decide) rfl ?_
      refine W.g_cmp (pc1 := 34) (pc2 := 30) P0.q d1_27 (by decide) rfl rfl (fun (c2 : ¬ ((sel &&& (2147483647 : Int32)) - ((sel &&& (2147483647 : Int32)) / (14 : Int32)) * (14 : Int32)) = (2 : Int32)) => ?_) (fun (c2 : ¬ (¬ ((sel &&& (2147483647 : Int32)) - ((sel &&& (2147483647 : Int32)) / (14 : Int32)) * (14 : Int32)) = (2 : Int32))) => ?_)
      · refine W.g_iloadN (pc1 := 35) P0.q d1_34 rfl rfl ?_
        refine W.g_iconst (pc1 := 36) (v := (3 : Int32)) P0.q d1_35 (by decide) rfl ?_
        refine W.g_cmp (pc1 := 43) (pc2 := 39) P0.q d1_36 (by decide) rfl rfl (fun (c3 : ¬ ((sel &&& (2147483647 : Int32)) - ((sel &&& (2147483647 : Int32)) / (14 : Int32)) * (14 : Int32)) = (3 : Int32)) => ?_) (fun (c3 : ¬ (¬ ((sel &&& (2147483647 : Int32)) - ((sel &&& (2147483647 : Int32)) / (14 : Int32)) * (14 : Int32)) = (3 : Int32))) => ?_)
        · refine W.g_iloadN (pc1 := 44) P0.q d1_43 rfl rfl ?_
          refine W.g_iconst (pc1 := 45) (v := (4 : Int32)) P0.q d1_44 (by decide) rfl ?_
          refine W.g_cmp (pc1 := 52) (pc2 := 48) P0.q d1_45 (by decide) rfl rfl (fun (c4 : ¬ ((sel &&& (2147483647 : Int32)) - ((sel &&& (2147483647 : Int32)) / (14 : Int32)) * (14 : Int32)) = (4 : Int32)) => ?_) (fun (c4 : ¬ (¬ ((sel &&& (2147483647 : Int32)) - ((sel &&& (2147483647 : Int32)) / (14 : Int32)) * (14 : Int32)) = (4 : Int32))) => ?_)
          · refine W.g_iloadN (pc1 := 53) P0.q d1_52 rfl rfl ?_
            refine W.g_iconst (pc1 := 54) (v := (5 : Int32)) P0.q d1_53 (by decide) rfl ?_
            refine W.g_cmp (pc1 := 61) (pc2 := 57) P0.q d1_54 (by decide) rfl rfl (fun (c5 : ¬ ((sel &&& (2147483647 : Int32)) - ((sel &&& (2147483647 : Int32)) / (14 : Int32)) * (14 : Int32)) = (5 : Int32)) => ?_) (fun (c5 : ¬ (¬ ((sel &&& (2147483647 : Int32)) - ((sel &&& (2147483647 : Int32)) / (14 : Int32)) * (14 : Int32)) = (5 : Int32))) => ?_)
            · refine W.g_iloadN (pc1 := 62) P0.q d1_61 rfl rfl ?_
              refine W.g_bipush (pc1 := 64) (v := (6 : Int32)) P0.q d1_62 (by decide) rfl ?_
              refine W.g_cmp (pc1 := 71) (pc2 := 67) P0.q d1_64 (by decide) rfl rfl (fun (c6 : ¬ ((sel &&& (2147483647 : Int32)) - ((sel &&& (2147483647 : Int32)) / (14 : Int32)) * (14 : Int32)) = (6 : Int32)) => ?_) (fun (c6 : ¬ (¬ ((sel &&& (2147483647 : Int32)) - ((sel &&& (2147483647 : Int32)) / (14 : Int32)) * (14 : Int32)) = (6 : Int32))) => ?_)
              · refine W.g_iloadN (pc1 := 72) P0.q d1_71 rfl rfl ?_
                refine W.g_bipush (pc1 := 74) (v := (7 : Int32)) P0.q d1_72 (by decide) rfl ?_
                refine W.g_cmp (pc1 := 81) (pc2 := 77) P0.q d1_74 (by decide) rfl rfl (fun (c7 : ¬ ((sel &&& (2147483647 : Int32)) - ((sel &&& (2147483647 : Int32)) / (14 : Int32)) * (14 : Int32)) = (7 : Int32)) => ?_) (fun (c7 : ¬ (¬ ((sel &&& (2147483647 : Int32)) - ((sel &&& (2147483647 : Int32)) / (14 : Int32)) * (14 : Int32)) = (7 : Int32))) => ?_)
                · refine W.g_iloadN (pc1 := 82) P0.q d1_81 rfl rfl ?_
                  refine W.g_bipush (pc1 := 84) (v := (8 : Int32)) P0.q d1_82 (by decide) rfl ?_
                  refine W.g_cmp (pc1 := 91) (pc2 := 87) P0.q d1_84 (by decide) rfl rfl (fun (c8 : ¬ ((sel &&& (2147483647 : Int32)) - ((sel &&& (2147483647 : Int32)) / (14 : Int32)) * (14 : Int32)) = (8 : Int32)) => ?_) (fun (c8 : ¬ (¬ ((sel &&& (2147483647 : Int32)) - ((sel &&& (2147483647 : Int32)) / (14 : Int32)) * (14 : Int32)) = (8 : Int32))) => ?_)
                  · refine W.g_iloadN (pc1 := 92) P0.q d1_91 rfl rfl ?_
                    refine W.g_bipush (pc1 := 94) (v := (9 : Int32)) P0.q d1_92 (by decide) rfl ?_
                    refine W.g_cmp (pc1 := 101) (pc2 := 97) P0.q d1_94 (by decide) rfl rfl (fun (c9 : ¬ ((sel &&& (2147483647 : Int32)) - ((sel &&& (2147483647 : Int32)) / (14 : Int32)) * (14 : Int32)) = (9 : Int32)) => ?_) (fun (c9 : ¬ (¬ ((sel &&& (2147483647 : Int32)) - ((sel &&& (2147483647 : Int32)) / (14 : Int32)) * (14 : Int32)) = (9 : Int32))) => ?_)
                    · refine W.g_iloadN (pc1 := 102) P0.q d1_101 rfl rfl ?_
                      refine W.g_bipush (pc1 := 104) (v := (10 : Int32)) P0.q d1_102 (by decide) rfl ?_
                      refine W.g_cmp (pc1 := 111) (pc2 := 107) P0.q d1_104 (by decide) rfl rfl (fun (c10 : ¬ ((sel &&& (2147483647 : Int32)) - ((sel &&& (2147483647 : Int32)) / (14 : Int32)) * (14 : Int32)) = (10 : Int32)) => ?_) (fun (c10 : ¬ (¬ ((sel &&& (2147483647 : Int32)) - ((sel &&& (2147483647 : Int32)) / (14 : Int32)) * (14 : Int32)) = (10 : Int32))) => ?_)
                      · refine W.g_iloadN (pc1 := 112) P0.q d1_111 rfl rfl ?_
                        refine W.g_bipush (pc1 := 114) (v := (11 : Int32)) P0.q d1_112 (by decide) rfl ?_
                        refine W.g_cmp (pc1 := 121) (pc2 := 117) P0.q d1_114 (by decide) rfl rfl (fun (c11 : ¬ ((sel &&& (2147483647 : Int32)) - ((sel &&& (2147483647 : Int32)) / (14 : Int32)) * (14 : Int32)) = (11 : Int32)) => ?_) (fun (c11 : ¬ (¬ ((sel &&& (2147483647 : Int32)) - ((sel &&& (2147483647 : Int32)) / (14 : Int32)) * (14 : Int32)) = (11 : Int32))) => ?_)
                        · refine W.g_iloadN (pc1 := 122) P0.q d1_121 rfl rfl ?_
                          refine W.g_bipush (pc1 := 124) (v := (12 : Int32)) P0.q d1_122 (by decide) rfl ?_
                          refine W.g_cmp (pc1 := 131) (pc2 := 127) P0.q d1_124 (by decide) rfl rfl (fun (c12 : ¬ ((sel &&& (2147483647 : Int32)) - ((sel &&& (2147483647 : Int32)) / (14 : Int32)) * (14 : Int32)) = (12 : Int32)) => ?_) (fun (c12 : ¬ (¬ ((sel &&& (2147483647 : Int32)) - ((sel &&& (2147483647 : Int32)) / (14 : Int32)) * (14 : Int32)) = (12 : Int32))) => ?_)
                          · obtain ⟨ca, Ca⟩ := cds "UNAVAILABLE_COMMUNITY" (by decide)
                            refine P0.getS (pc1 := 134) (wd hw (k := 166) rfl) Via.refl (Ca.ext EZ) d1_131 rfl ?_
                            intro T122 P122
                            exact P122.retAN hlk hret rfl rfl rfl d1_134 (by decide) (by decide) ⟨ca, rfl, rfl, rfl⟩
                          · obtain ⟨ca, Ca⟩ := cds "UNKNOWN_COMMUNITY" (by decide)
                            refine P0.getS (pc1 := 130) (wd hw (k := 144) rfl) Via.refl (Ca.ext EZ) d1_127 rfl ?_
                            intro T121 P121
                            exact P121.retAN hlk hret rfl rfl rfl d1_130 (by decide) (by decide) ⟨ca, rfl, rfl, rfl⟩
                        · obtain ⟨ca, Ca⟩ := cds "UNKNOWN_REPOSITORY_ID" (by decide)
                          refine P0.getS (pc1 := 120) (wd hw (k := 162) rfl) Via.refl (Ca.ext EZ) d1_117 rfl ?_
                          intro T120 P120
                          exact P120.retAN hlk hret rfl rfl rfl d1_120 (by decide) (by decide) ⟨ca, rfl, rfl, rfl⟩
                      · obtain ⟨ca, Ca⟩ := cds "DOCUMENT_UNIQUE_ID_ERROR" (by decide)
                        refine P0.getS (pc1 := 110) (wd hw (k := 146) rfl) Via.refl (Ca.ext EZ) d1_107 rfl ?_
                        intro T119 P119
                        exact P119.retAN hlk hret rfl rfl rfl d1_110 (by decide) (by decide) ⟨ca, rfl, rfl, rfl⟩
                    · obtain ⟨ca, Ca⟩ := cds "STORED_QUERY_PARAM_NUMBER" (by decide)
                      refine P0.getS (pc1 := 100) (wd hw (k := 160) rfl) Via.refl (Ca.ext EZ) d1_97 rfl ?_
                      intro T118 P118
                      exact P118.retAN hlk hret rfl rfl rfl d1_100 (by decide) (by decide) ⟨ca, rfl, rfl, rfl⟩
                  · obtain ⟨ca, Ca⟩ := cds "STORED_QUERY_MISSING_PARAM" (by decide)
                    refine P0.getS (pc1 := 90) (wd hw (k := 154) rfl) Via.refl (Ca.ext EZ) d1_87 rfl ?_
                    intro T117 P117
                    exact P117.retAN hlk hret rfl rfl rfl d1_90 (by decide) (by decide) ⟨ca, rfl, rfl, rfl⟩
                · obtain ⟨ca, Ca⟩ := cds "UNKNOWN_STORED_QUERY" (by decide)
                  refine P0.getS (pc1 := 80) (wd hw (k := 150) rfl) Via.refl (Ca.ext EZ) d1_77 rfl ?_
                  intro T116 P116
                  exact P116.retAN hlk hret rfl rfl rfl d1_80 (by decide) (by decide) ⟨ca, rfl, rfl, rfl⟩
              · obtain ⟨ca, Ca⟩ := cds "REGISTRY_ERROR" (by decide)
                refine P0.getS (pc1 := 70) (wd hw (k := 152) rfl) Via.refl (Ca.ext EZ) d1_67 rfl ?_
                intro T115 P115
                exact P115.retAN hlk hret rfl rfl rfl d1_70 (by decide) (by decide) ⟨ca, rfl, rfl, rfl⟩
            · obtain ⟨ca, Ca⟩ := cds "REPOSITORY_ERROR" (by decide)
              refine P0.getS (pc1 := 60) (wd hw (k := 156) rfl) Via.refl (Ca.ext EZ) d1_57 rfl ?_
              intro T114 P114
              exact P114.retAN hlk hret rfl rfl rfl d1_60 (by decide) (by decide) ⟨ca, rfl, rfl, rfl⟩
          · obtain ⟨ca, Ca⟩ := cds "REGISTRY_METADATA_ERROR" (by decide)
            refine P0.getS (pc1 := 51) (wd hw (k := 164) rfl) Via.refl (Ca.ext EZ) d1_48 rfl ?_
            intro T113 P113
            exact P113.retAN hlk hret rfl rfl rfl d1_51 (by decide) (by decide) ⟨ca, rfl, rfl, rfl⟩
        · obtain ⟨ca, Ca⟩ := cds "REPOSITORY_METADATA_ERROR" (by decide)
          refine P0.getS (pc1 := 42) (wd hw (k := 139) rfl) Via.refl (Ca.ext EZ) d1_39 rfl ?_
          intro T112 P112
          exact P112.retAN hlk hret rfl rfl rfl d1_42 (by decide) (by decide) ⟨ca, rfl, rfl, rfl⟩
      · obtain ⟨ca, Ca⟩ := cds "NON_IDENTICAL_HASH" (by decide)
        refine P0.getS (pc1 := 33) (wd hw (k := 158) rfl) Via.refl (Ca.ext EZ) d1_30 rfl ?_
        intro T111 P111
        exact P111.retAN hlk hret rfl rfl rfl d1_33 (by decide) (by decide) ⟨ca, rfl, rfl, rfl⟩
    · obtain ⟨ca, Ca⟩ := cds "MISSING_DOCUMENT_METADATA" (by decide)
      refine P0.getS (pc1 := 24) (wd hw (k := 148) rfl) Via.refl (Ca.ext EZ) d1_21 rfl ?_
      intro T110 P110
      exact P110.retAN hlk hret rfl rfl rfl d1_24 (by decide) (by decide) ⟨ca, rfl, rfl, rfl⟩
  · obtain ⟨ca, Ca⟩ := cds "MISSING_DOCUMENT" (by decide)
    refine P0.getS (pc1 := 15) (wd hw (k := 5) rfl) Via.refl (Ca.ext EZ) d1_12 rfl ?_
    intro T109 P109
    exact P109.retAN hlk hret rfl rfl rfl d1_15 (by decide) (by decide) ⟨ca, rfl, rfl, rfl⟩
def own_cs (n a b c : Int32) : List Int32 := if n &&& 3 = 0 then [] else if n &&& 3 = 1 then [a &&& 255] else if n &&& 3 = 2 then [a &&& 255, b &&& 255] else [a &&& 255, b &&& 255, c &&& 255]
def QM (Z : State) (n a b c : Int32) (h0 : Heap) (v : Option Value) (h : Heap) (L : List Loc) : Prop := ∃ x, v = some (.ref x) ∧ W.Frw [] h0.size L ∧ Ext h0 h ∧ W.Str Z h x (own_cs n a b c)
abbrev rmMk : Room := ({ frames := 5, cells := 8, slots := 30, locals := 90 } : Room)
set_option maxRecDepth 65536 in
set_option maxHeartbeats 40000000 in
theorem c_text (l : Launch) (Z : State) (a0 : Array Value) (hw : ∀ d ∈ tables_1, d.before a0 Z = true) (wS : ∀ a ∈ Bundle.stringAtoms, a.before a0 Z = true) (hEL : EW Z a0 ownEL) (ln av bv cv : Int32) (h0 : Heap) (EZ : Ext Z.heap h0) (zc : Int32) (hzc : ¬ zc = 0) (C0 : Sta Z Z.heap "java/lang/String" "COMPACT_STRINGS" "Z" (.int zc)) : W.MetW l Z ownEL (⟨"com/example/reticolo/reticolo/service/XdsExceptionErrorPinLaw", "text", "(IIII)Ljava/lang/String;"⟩ : MethodName) method_3_code 9 ((Option.some (Jvm.ClassFile.FieldType.object "java/lang/String"))) [] rmMk #[.int ln, .int av, .int bv, .int cv] [] h0 (QM Z ln av bv cv h0) := by
  refine W.MetW.mk (ls0 := #[.val (.int ln), .val (.int av), .val (.int bv), .val (.int cv), .unset, .unset, .unset, .unset, .unset]) [] (plainFor_of_name pn_com_example_reticolo_reticolo_service_XdsExceptionErrorPinLaw) (fun m => by first | (simp [entryFrame, mkF, argsToLocals, Value.category]; done) | rfl) ?_
  intro p e s m below meth c s₁ hml hret hnm hlk hss P0
  show W.Go p.tables e below _ (s₁.setTop (mkF m 0 #[.val (.int ln), .val (.int av), .val (.int bv), .val (.int cv), .unset, .unset, .unset, .unset, .unset] []))
  have hws : ∀ d ∈ StrChars.Road.words, d.before a0 Z = true := fun d hd => hw d (own_words d hd)
  refine W.g_iloadN (pc1 := 1) P0.q d2_0 rfl rfl ?_
  refine W.g_iconst (pc1 := 2) (v := (3 : Int32)) P0.q d2_1 (by decide) rfl ?_
  refine W.g_iand (pc1 := 3) P0.q d2_2 rfl ?_
  refine W.g_istore (pc1 := 5) (ls2 := #[.val (.int ln), .val (.int av), .val (.int bv), .val (.int cv), .val (.int (ln &&& (3 : Int32))), .unset, .unset, .unset, .unset]) P0.q d2_3 rfl rfl ?_
  refine W.g_iloadN (pc1 := 6) P0.q d2_5 rfl rfl ?_
  refine W.g_sipush (pc1 := 9) (v := (255 : Int32)) P0.q d2_6 (by decide) rfl ?_
  refine W.g_iand (pc1 := 10) P0.q d2_9 rfl ?_
  refine W.g_i2c (pc1 := 11) P0.q d2_10 rfl ?_
  rw [i2c_mask]
  show W.Go p.tables e below _ (s₁.setTop (mkF m 11 #[.val (.int ln), .val (.int av), .val (.int bv), .val (.int cv), .val (.int (ln &&& (3 : Int32))), .unset, .unset, .unset, .unset] [(.int (av &&& (255 : Int32)))]))
  refine W.g_istore (pc1 := 13) (ls2 := #[.val (.int ln), .val (.int av), .val (.int bv), .val (.int cv), .val (.int (ln &&& (3 : Int32))), .val (.int (av &&& (255 : Int32))), .unset, .unset, .unset]) P0.q d2_11 rfl rfl ?_
  refine W.g_iloadN (pc1 := 14) P0.q d2_13 rfl rfl ?_
  refine W.g_sipush (pc1 := 17) (v := (255 : Int32)) P0.q d2_14 (by decide) rfl ?_
  refine W.g_iand (pc1 := 18) P0.q d2_17 rfl ?_
  refine W.g_i2c (pc1 := 19) P0.q d2_18 rfl ?_
  rw [i2c_mask]
  show W.Go p.tables e below _ (s₁.setTop (mkF m 19 #[.val (.int ln), .val (.int av), .val (.int bv), .val (.int cv), .val (.int (ln &&& (3 : Int32))), .val (.int (av &&& (255 : Int32))), .unset, .unset, .unset] [(.int (bv &&& (255 : Int32)))]))
  refine W.g_istore (pc1 := 21) (ls2 := #[.val (.int ln), .val (.int av), .val (.int bv), .val (.int cv), .val (.int (ln &&& (3 : Int32))), .val (.int (av &&& (255 : Int32))), .val (.int (bv &&& (255 : Int32))), .unset, .unset]) P0.q d2_19 rfl rfl ?_
  refine W.g_iloadN (pc1 := 22) P0.q d2_21 rfl rfl ?_
  refine W.g_sipush (pc1 := 25) (v := (255 : Int32)) P0.q d2_22 (by decide) rfl ?_
  refine W.g_iand (pc1 := 26) P0.q d2_25 rfl ?_
  refine W.g_i2c (pc1 := 27) P0.q d2_26 rfl ?_
  rw [i2c_mask]
  show W.Go p.tables e below _ (s₁.setTop (mkF m 27 #[.val (.int ln), .val (.int av), .val (.int bv), .val (.int cv), .val (.int (ln &&& (3 : Int32))), .val (.int (av &&& (255 : Int32))), .val (.int (bv &&& (255 : Int32))), .unset, .unset] [(.int (cv &&& (255 : Int32)))]))
  refine W.g_istore (pc1 := 29) (ls2 := #[.val (.int ln), .val (.int av), .val (.int bv), .val (.int cv), .val (.int (ln &&& (3 : Int32))), .val (.int (av &&& (255 : Int32))), .val (.int (bv &&& (255 : Int32))), .val (.int (cv &&& (255 : Int32))), .unset]) P0.q d2_27 rfl rfl ?_
  rcases own_mask3 ln with en | en | en | en <;> rw [en]
  · show W.Go p.tables e below _ (s₁.setTop (mkF m 29 #[.val (.int ln), .val (.int av), .val (.int bv), .val (.int cv), .val (.int (0 : Int32)), .val (.int (av &&& (255 : Int32))), .val (.int (bv &&& (255 : Int32))), .val (.int (cv &&& (255 : Int32))), .unset] []))
    refine W.g_iload (pc1 := 31) P0.q d2_29 rfl rfl ?_
    refine W.g_ifN (pc2 := 34) P0.q d2_31 rfl (by decide) ?_
    refine P0.newO (pc1 := 37) (wd hw (k := 12) rfl) (wd hw (k := 13) rfl) (wd hw (k := 14) rfl) (by decide) (by decide) d2_34 rfl ?_
    intro T123 h123 x123 g123 P123 E123 A123 D123 U123
    refine W.g_dup (pc1 := 38) P123.q d2_37 rfl rfl ?_
    refine W.g_iconst (pc1 := 39) (v := (0 : Int32)) P123.q d2_38 (by decide) rfl ?_
    refine P123.newP (pc1 := 41) (cap := 0) (wd hw (k := 11) rfl) (by decide) (by decide) (by decide) (by decide) (by decide) d2_39 rfl ?_
    intro T124 h124 x124 k124 g124 P124 E124 V124
    have Fv : Fld Z h124 x123 "java/lang/String" "value" "[B" .null := (D123 (Or.inr (wd hw (k := 40) rfl)) (ty := .array .byte) (by decide)).ext E124
    have Fc : Fld Z h124 x123 "java/lang/String" "coder" "B" (.int 0) := (D123 (Or.inr (wd hw (k := 38) rfl)) (ty := .byte) (by decide)).ext E124
    have Ax := A123.ext E124
    have Sx := Safe.ext (EL := ownEL) E124 P123.chv (Safe.ext E123 P0.chv (Safe.new (Nat.le_of_eq g123.symm)))
    refine P124.callNW (pc1 := 44) rfl (wd hw (k := 15) rfl) (wd hw (k := 16) rfl) (wd hw (k := 17) rfl) (by decide) (W.MetW.pay (W := 1) (nw1 l Z a0 hw wS hEL x123 x124 k124 _ _ h124 Ax _ _ Fv Fc V124) P124 hEL (allS ⟨Ax.lt, Sx⟩ all0) (wd hw (k := 17) rfl) (wd hw (k := 14) rfl) (by decide) (by decide)) (argsL := [(.ref x124)]) (st0 := [(.ref x123)]) (lenOf pd_AC_R_V rfl) rfl rfl (Nat.le_of_eq rfl) (by rw [hml]; rfl) (by decide) (by decide) (fun _ _ _ q => q.2.1.up P124.sz (allS (Or.inr (by rw [g123]; exact P0.sz)) all0)) d2_41 rfl ?_
    intro v125 T125 h125 L125 q125 P125 R125
    obtain ⟨rfl, f125, K125, S125⟩ := q125
    show W.Go p.tables e below _ (T125.setTop (mkF m 44 #[.val (.int ln), .val (.int av), .val (.int bv), .val (.int cv), .val (.int (0 : Int32)), .val (.int (av &&& (255 : Int32))), .val (.int (bv &&& (255 : Int32))), .val (.int (cv &&& (255 : Int32))), .unset] [(.ref x123)]))
    exact P125.retAW hEL hlk hret rfl rfl rfl d2_44 (by decide) (by decide) ⟨x123, rfl, P125.fr, P125.ext0, by rw [own_cs, if_pos en]; exact S125⟩
  · show W.Go p.tables e below _ (s₁.setTop (mkF m 29 #[.val (.int ln), .val (.int av), .val (.int bv), .val (.int cv), .val (.int (1 : Int32)), .val (.int (av &&& (255 : Int32))), .val (.int (bv &&& (255 : Int32))), .val (.int (cv &&& (255 : Int32))), .unset] []))
    refine W.g_iload (pc1 := 31) P0.q d2_29 rfl rfl ?_
    refine W.g_ifY (pc1 := 45) P0.q d2_31 (by decide) rfl (by decide) ?_
    refine W.g_iload (pc1 := 47) P0.q d2_45 rfl rfl ?_
    refine W.g_iconst (pc1 := 48) (v := (1 : Int32)) P0.q d2_47 (by decide) rfl ?_
    refine W.g_cmpN (pc2 := 51) P0.q d2_48 rfl (by decide) ?_
    refine W.g_iconst (pc1 := 52) (v := (1 : Int32)) P0.q d2_51 (by decide) rfl ?_
    refine P0.newP (pc1 := 54) (cap := 1) (wd hw (k := 11) rfl) (by decide) (by decide) (by decide) (by decide) (by decide) d2_52 rfl ?_
    intro T126 h126 x126 k126 g126 P126 E126 V126
    refine W.g_astore (pc1 := 56) (ls2 := #[.val (.int ln), .val (.int av), .val (.int bv), .val (.int cv), .val (.int (1 : Int32)), .val (.int (av &&& (255 : Int32))), .val (.int (bv &&& (255 : Int32))), .val (.int (cv &&& (255 : Int32))), .val (.ref x126)]) P126.q d2_54 rfl rfl rfl ?_
    refine W.g_aload (pc1 := 58) P126.q d2_56 rfl rfl rfl ?_
    refine W.g_iconst (pc1 := 59) (v := (0 : Int32)) P126.q d2_58 (by decide) rfl ?_
    refine W.g_iload (pc1 := 61) P126.q d2_59 rfl rfl ?_
    refine P126.stC (pc1 := 62) (i := 0) V126 (by decide) (by decide) (Nat.le_of_ble_eq_true rfl) rfl (Or.inr (by rw [g126]; exact P0.sz)) (Safe.arv P126.al V126 (by decide)) d2_61 rfl ?_
    intro T127 h127 P127 W127 V127
    refine P127.newO (pc1 := 65) (wd hw (k := 12) rfl) (wd hw (k := 13) rfl) (wd hw (k := 14) rfl) (by decide) (by decide) d2_62 rfl ?_
    intro T128 h128 x128 g128 P128 E128 A128 D128 U128
    refine W.g_dup (pc1 := 66) P128.q d2_65 rfl rfl ?_
    refine W.g_aload (pc1 := 68) P128.q d2_66 rfl rfl rfl ?_
    have Vv128 := V127.ext E128
    have Fv128 : Fld Z h128 x128 "java/lang/String" "value" "[B" .null := D128 (Or.inr (wd hw (k := 40) rfl)) (ty := .array .byte) (by decide)
    have Fc128 : Fld Z h128 x128 "java/lang/String" "coder" "B" (.int 0) := D128 (Or.inr (wd hw (k := 38) rfl)) (ty := .byte) (by decide)
    have Sx128 := Safe.ext (EL := ownEL) E128 P127.chv (Safe.new (Nat.le_of_eq g128.symm))
    simp only [List.replicate, List.set, own_nar255] at Vv128
    have hp128 : ∀ c ∈ ([(av &&& 255)] : List Int32), ¬ c < 0 ∧ ¬ (255 : Int32) < c := fun c hc => by
        simp only [List.mem_cons, List.not_mem_nil, or_false] at hc
        first | (rcases hc with rfl | rfl | rfl <;> exact own_m255 _) | (rcases hc with rfl | rfl <;> exact own_m255 _) | (subst hc; exact own_m255 _)
    refine P128.callN (pc1 := 71) rfl (wd hw (k := 15) rfl) (wd hw (k := 16) rfl) (wd hw (k := 17) rfl) (by decide) (StrChars.Road.backV (W := 1) P128.hz hws (kI := 4) (wd hw (k := 13) rfl) (cs := [(av &&& 255)]) (bs := ([(av &&& 255)]).map (fun c => c.toInt8.toInt32)) (n := 1) (n0 := h0.size) (by rw [g128]; exact P127.sz) P128.sz A128 Fv128 Fc128 Vv128 (C0.ext (P128.extZ EZ all0)) hzc rfl rfl (by decide) (by decide) hp128 rfl (by decide) (by decide)) (argsL := [(.ref x126)]) (st0 := [(.ref x128)]) (lenOf pd_AC_R_V rfl) rfl rfl (Nat.le_of_eq rfl) (by rw [hml]; rfl) (by decide) (by decide) (fun _ _ _ q => ⟨W.Frw.of_fr q.2.1 (Nat.le_refl _), CHr.keep q.2.2.1 (sfS Sx128 sf0) P128.chv⟩) d2_68 rfl ?_
    intro v129 T129 h129 L129 q129 P129
    obtain ⟨rfl, f129, K129, A129, C129, t129, k129, b129, c129, d129, F129, V129⟩ := q129
    show W.Go p.tables e below _ (T129.setTop (mkF m 71 #[.val (.int ln), .val (.int av), .val (.int bv), .val (.int cv), .val (.int (1 : Int32)), .val (.int (av &&& (255 : Int32))), .val (.int (bv &&& (255 : Int32))), .val (.int (cv &&& (255 : Int32))), .val (.ref x126)] [(.ref x128)]))
    have S129 : W.Str Z h129 x128 [(av &&& 255)] := ⟨t129, k129, _, _, _, A129, F129, C129, V129, StrChars.Road.codOf (cs := [(av &&& 255)]) (n := 1) rfl (fun c hc => (hp128 c hc).2), fun c hc => ⟨(hp128 c hc).1, own_up (hp128 c hc).2⟩, Nat.le_of_ble_eq_true rfl⟩
    exact P129.retAW hEL hlk hret rfl rfl rfl d2_71 (by decide) (by decide) ⟨x128, rfl, P129.fr, P129.ext0, by rw [own_cs, if_neg (by rw [en]; decide), if_pos en]; exact S129⟩
  · show W.Go p.tables e below _ (s₁.setTop (mkF m 29 #[.val (.int ln), .val (.int av), .val (.int bv), .val (.int cv), .val (.int (2 : Int32)), .val (.int (av &&& (255 : Int32))), .val (.int (bv &&& (255 : Int32))), .val (.int (cv &&& (255 : Int32))), .unset] []))
    refine W.g_iload (pc1 := 31) P0.q d2_29 rfl rfl ?_
    refine W.g_ifY (pc1 := 45) P0.q d2_31 (by decide) rfl (by decide) ?_
    refine W.g_iload (pc1 := 47) P0.q d2_45 rfl rfl ?_
    refine W.g_iconst (pc1 := 48) (v := (1 : Int32)) P0.q d2_47 (by decide) rfl ?_
    refine W.g_cmpY (pc1 := 72) P0.q d2_48 (by decide) rfl (by decide) ?_
    refine W.g_iload (pc1 := 74) P0.q d2_72 rfl rfl ?_
    refine W.g_iconst (pc1 := 75) (v := (2 : Int32)) P0.q d2_74 (by decide) rfl ?_
    refine W.g_cmpN (pc2 := 78) P0.q d2_75 rfl (by decide) ?_
    refine W.g_iconst (pc1 := 79) (v := (2 : Int32)) P0.q d2_78 (by decide) rfl ?_
    refine P0.newP (pc1 := 81) (cap := 2) (wd hw (k := 11) rfl) (by decide) (by decide) (by decide) (by decide) (by decide) d2_79 rfl ?_
    intro T130 h130 x130 k130 g130 P130 E130 V130
    refine W.g_astore (pc1 := 83) (ls2 := #[.val (.int ln), .val (.int av), .val (.int bv), .val (.int cv), .val (.int (2 : Int32)), .val (.int (av &&& (255 : Int32))), .val (.int (bv &&& (255 : Int32))), .val (.int (cv &&& (255 : Int32))), .val (.ref x130)]) P130.q d2_81 rfl rfl rfl ?_
    refine W.g_aload (pc1 := 85) P130.q d2_83 rfl rfl rfl ?_
    refine W.g_iconst (pc1 := 86) (v := (0 : Int32)) P130.q d2_85 (by decide) rfl ?_
    refine W.g_iload (pc1 := 88) P130.q d2_86 rfl rfl ?_
    refine P130.stC (pc1 := 89) (i := 0) V130 (by decide) (by decide) (Nat.le_of_ble_eq_true rfl) rfl (Or.inr (by rw [g130]; exact P0.sz)) (Safe.arv P130.al V130 (by decide)) d2_88 rfl ?_
    intro T131 h131 P131 W131 V131
    refine W.g_aload (pc1 := 91) P131.q d2_89 rfl rfl rfl ?_
    refine W.g_iconst (pc1 := 92) (v := (1 : Int32)) P131.q d2_91 (by decide) rfl ?_
    refine W.g_iload (pc1 := 94) P131.q d2_92 rfl rfl ?_
    refine P131.stC (pc1 := 95) (i := 1) V131 (by decide) (by decide) (Nat.le_of_ble_eq_true rfl) rfl (Or.inr (by rw [g130]; exact P0.sz)) (Safe.arv P131.al V131 (by decide)) d2_94 rfl ?_
    intro T132 h132 P132 W132 V132
    refine P132.newO (pc1 := 98) (wd hw (k := 12) rfl) (wd hw (k := 13) rfl) (wd hw (k := 14) rfl) (by decide) (by decide) d2_95 rfl ?_
    intro T133 h133 x133 g133 P133 E133 A133 D133 U133
    refine W.g_dup (pc1 := 99) P133.q d2_98 rfl rfl ?_
    refine W.g_aload (pc1 := 101) P133.q d2_99 rfl rfl rfl ?_
    have Vv133 := V132.ext E133
    have Fv133 : Fld Z h133 x133 "java/lang/String" "value" "[B" .null := D133 (Or.inr (wd hw (k := 40) rfl)) (ty := .array .byte) (by decide)
    have Fc133 : Fld Z h133 x133 "java/lang/String" "coder" "B" (.int 0) := D133 (Or.inr (wd hw (k := 38) rfl)) (ty := .byte) (by decide)
    have Sx133 := Safe.ext (EL := ownEL) E133 P132.chv (Safe.new (Nat.le_of_eq g133.symm))
    simp only [List.replicate, List.set, own_nar255] at Vv133
    have hp133 : ∀ c ∈ ([(av &&& 255), (bv &&& 255)] : List Int32), ¬ c < 0 ∧ ¬ (255 : Int32) < c := fun c hc => by
        simp only [List.mem_cons, List.not_mem_nil, or_false] at hc
        first | (rcases hc with rfl | rfl | rfl <;> exact own_m255 _) | (rcases hc with rfl | rfl <;> exact own_m255 _) | (subst hc; exact own_m255 _)
    refine P133.callN (pc1 := 104) rfl (wd hw (k := 15) rfl) (wd hw (k := 16) rfl) (wd hw (k := 17) rfl) (by decide) (StrChars.Road.backV (W := 1) P133.hz hws (kI := 4) (wd hw (k := 13) rfl) (cs := [(av &&& 255), (bv &&& 255)]) (bs := ([(av &&& 255), (bv &&& 255)]).map (fun c => c.toInt8.toInt32)) (n := 2) (n0 := h0.size) (by rw [g133]; exact P132.sz) P133.sz A133 Fv133 Fc133 Vv133 (C0.ext (P133.extZ EZ all0)) hzc rfl rfl (by decide) (by decide) hp133 rfl (by decide) (by decide)) (argsL := [(.ref x130)]) (st0 := [(.ref x133)]) (lenOf pd_AC_R_V rfl) rfl rfl (Nat.le_of_eq rfl) (by rw [hml]; rfl) (by decide) (by decide) (fun _ _ _ q => ⟨W.Frw.of_fr q.2.1 (Nat.le_refl _), CHr.keep q.2.2.1 (sfS Sx133 sf0) P133.chv⟩) d2_101 rfl ?_
    intro v134 T134 h134 L134 q134 P134
    obtain ⟨rfl, f134, K134, A134, C134, t134, k134, b134, c134, d134, F134, V134⟩ := q134
    show W.Go p.tables e below _ (T134.setTop (mkF m 104 #[.val (.int ln), .val (.int av), .val (.int bv), .val (.int cv), .val (.int (2 : Int32)), .val (.int (av &&& (255 : Int32))), .val (.int (bv &&& (255 : Int32))), .val (.int (cv &&& (255 : Int32))), .val (.ref x130)] [(.ref x133)]))
    have S134 : W.Str Z h134 x133 [(av &&& 255), (bv &&& 255)] := ⟨t134, k134, _, _, _, A134, F134, C134, V134, StrChars.Road.codOf (cs := [(av &&& 255), (bv &&& 255)]) (n := 2) rfl (fun c hc => (hp133 c hc).2), fun c hc => ⟨(hp133 c hc).1, own_up (hp133 c hc).2⟩, Nat.le_of_ble_eq_true rfl⟩
    exact P134.retAW hEL hlk hret rfl rfl rfl d2_104 (by decide) (by decide) ⟨x133, rfl, P134.fr, P134.ext0, by rw [own_cs, if_neg (by rw [en]; decide), if_neg (by rw [en]; decide), if_pos en]; exact S134⟩
  · show W.Go p.tables e below _ (s₁.setTop (mkF m 29 #[.val (.int ln), .val (.int av), .val (.int bv), .val (.int cv), .val (.int (3 : Int32)), .val (.int (av &&& (255 : Int32))), .val (.int (bv &&& (255 : Int32))), .val (.int (cv &&& (255 : Int32))), .unset] []))
    refine W.g_iload (pc1 := 31) P0.q d2_29 rfl rfl ?_
    refine W.g_ifY (pc1 := 45) P0.q d2_31 (by decide) rfl (by decide) ?_
    refine W.g_iload (pc1 := 47) P0.q d2_45 rfl rfl ?_
    refine W.g_iconst (pc1 := 48) (v := (1 : Int32)) P0.q d2_47 (by decide) rfl ?_
    refine W.g_cmpY (pc1 := 72) P0.q d2_48 (by decide) rfl (by decide) ?_
    refine W.g_iload (pc1 := 74) P0.q d2_72 rfl rfl ?_
    refine W.g_iconst (pc1 := 75) (v := (2 : Int32)) P0.q d2_74 (by decide) rfl ?_
    refine W.g_cmpY (pc1 := 105) P0.q d2_75 (by decide) rfl (by decide) ?_
    refine W.g_iconst (pc1 := 106) (v := (3 : Int32)) P0.q d2_105 (by decide) rfl ?_
    refine P0.newP (pc1 := 108) (cap := 3) (wd hw (k := 11) rfl) (by decide) (by decide) (by decide) (by decide) (by decide) d2_106 rfl ?_
    intro T135 h135 x135 k135 g135 P135 E135 V135
    refine W.g_astore (pc1 := 110) (ls2 := #[.val (.int ln), .val (.int av), .val (.int bv), .val (.int cv), .val (.int (3 : Int32)), .val (.int (av &&& (255 : Int32))), .val (.int (bv &&& (255 : Int32))), .val (.int (cv &&& (255 : Int32))), .val (.ref x135)]) P135.q d2_108 rfl rfl rfl ?_
    refine W.g_aload (pc1 := 112) P135.q d2_110 rfl rfl rfl ?_
    refine W.g_iconst (pc1 := 113) (v := (0 : Int32)) P135.q d2_112 (by decide) rfl ?_
    refine W.g_iload (pc1 := 115) P135.q d2_113 rfl rfl ?_
    refine P135.stC (pc1 := 116) (i := 0) V135 (by decide) (by decide) (Nat.le_of_ble_eq_true rfl) rfl (Or.inr (by rw [g135]; exact P0.sz)) (Safe.arv P135.al V135 (by decide)) d2_115 rfl ?_
    intro T136 h136 P136 W136 V136
    refine W.g_aload (pc1 := 118) P136.q d2_116 rfl rfl rfl ?_
    refine W.g_iconst (pc1 := 119) (v := (1 : Int32)) P136.q d2_118 (by decide) rfl ?_
    refine W.g_iload (pc1 := 121) P136.q d2_119 rfl rfl ?_
    refine P136.stC (pc1 := 122) (i := 1) V136 (by decide) (by decide) (Nat.le_of_ble_eq_true rfl) rfl (Or.inr (by rw [g135]; exact P0.sz)) (Safe.arv P136.al V136 (by decide)) d2_121 rfl ?_
    intro T137 h137 P137 W137 V137
    refine W.g_aload (pc1 := 124) P137.q d2_122 rfl rfl rfl ?_
    refine W.g_iconst (pc1 := 125) (v := (2 : Int32)) P137.q d2_124 (by decide) rfl ?_
    refine W.g_iload (pc1 := 127) P137.q d2_125 rfl rfl ?_
    refine P137.stC (pc1 := 128) (i := 2) V137 (by decide) (by decide) (Nat.le_of_ble_eq_true rfl) rfl (Or.inr (by rw [g135]; exact P0.sz)) (Safe.arv P137.al V137 (by decide)) d2_127 rfl ?_
    intro T138 h138 P138 W138 V138
    refine P138.newO (pc1 := 131) (wd hw (k := 12) rfl) (wd hw (k := 13) rfl) (wd hw (k := 14) rfl) (by decide) (by decide) d2_128 rfl ?_
    intro T139 h139 x139 g139 P139 E139 A139 D139 U139
    refine W.g_dup (pc1 := 132) P139.q d2_131 rfl rfl ?_
    refine W.g_aload (pc1 := 134) P139.q d2_132 rfl rfl rfl ?_
    have Vv139 := V138.ext E139
    have Fv139 : Fld Z h139 x139 "java/lang/String" "value" "[B" .null := D139 (Or.inr (wd hw (k := 40) rfl)) (ty := .array .byte) (by decide)
    have Fc139 : Fld Z h139 x139 "java/lang/String" "coder" "B" (.int 0) := D139 (Or.inr (wd hw (k := 38) rfl)) (ty := .byte) (by decide)
    have Sx139 := Safe.ext (EL := ownEL) E139 P138.chv (Safe.new (Nat.le_of_eq g139.symm))
    simp only [List.replicate, List.set, own_nar255] at Vv139
    have hp139 : ∀ c ∈ ([(av &&& 255), (bv &&& 255), (cv &&& 255)] : List Int32), ¬ c < 0 ∧ ¬ (255 : Int32) < c := fun c hc => by
        simp only [List.mem_cons, List.not_mem_nil, or_false] at hc
        first | (rcases hc with rfl | rfl | rfl <;> exact own_m255 _) | (rcases hc with rfl | rfl <;> exact own_m255 _) | (subst hc; exact own_m255 _)
    refine P139.callN (pc1 := 137) rfl (wd hw (k := 15) rfl) (wd hw (k := 16) rfl) (wd hw (k := 17) rfl) (by decide) (StrChars.Road.backV (W := 1) P139.hz hws (kI := 4) (wd hw (k := 13) rfl) (cs := [(av &&& 255), (bv &&& 255), (cv &&& 255)]) (bs := ([(av &&& 255), (bv &&& 255), (cv &&& 255)]).map (fun c => c.toInt8.toInt32)) (n := 3) (n0 := h0.size) (by rw [g139]; exact P138.sz) P139.sz A139 Fv139 Fc139 Vv139 (C0.ext (P139.extZ EZ all0)) hzc rfl rfl (by decide) (by decide) hp139 rfl (by decide) (by decide)) (argsL := [(.ref x135)]) (st0 := [(.ref x139)]) (lenOf pd_AC_R_V rfl) rfl rfl (Nat.le_of_eq rfl) (by rw [hml]; rfl) (by decide) (by decide) (fun _ _ _ q => ⟨W.Frw.of_fr q.2.1 (Nat.le_refl _), CHr.keep q.2.2.1 (sfS Sx139 sf0) P139.chv⟩) d2_134 rfl ?_
    intro v140 T140 h140 L140 q140 P140
    obtain ⟨rfl, f140, K140, A140, C140, t140, k140, b140, c140, d140, F140, V140⟩ := q140
    show W.Go p.tables e below _ (T140.setTop (mkF m 137 #[.val (.int ln), .val (.int av), .val (.int bv), .val (.int cv), .val (.int (3 : Int32)), .val (.int (av &&& (255 : Int32))), .val (.int (bv &&& (255 : Int32))), .val (.int (cv &&& (255 : Int32))), .val (.ref x135)] [(.ref x139)]))
    have S140 : W.Str Z h140 x139 [(av &&& 255), (bv &&& 255), (cv &&& 255)] := ⟨t140, k140, _, _, _, A140, F140, C140, V140, StrChars.Road.codOf (cs := [(av &&& 255), (bv &&& 255), (cv &&& 255)]) (n := 3) rfl (fun c hc => (hp139 c hc).2), fun c hc => ⟨(hp139 c hc).1, own_up (hp139 c hc).2⟩, Nat.le_of_ble_eq_true rfl⟩
    exact P140.retAW hEL hlk hret rfl rfl rfl d2_137 (by decide) (by decide) ⟨x139, rfl, P140.fr, P140.ext0, by rw [own_cs, if_neg (by rw [en]; decide), if_neg (by rw [en]; decide), if_neg (by rw [en]; decide)]; exact S140⟩
/-- what EX1's law of fillInStackTrace asks of Throwable's tables, out of this sheet's words (the sheet lays 'suppressedExceptions' in XdsException alone) -/
theorem own_thr {Z S : State} {a0 : Array Value} {pl : Platform} (hw : ∀ d ∈ tables_1, d.before a0 Z = true) (hZ : Z.Warmed39 S.vm) (o1 : pl.frameOwnsMonitors = true) (o2 : pl.finalization = false) (o3 : pl.magicAccessors = ({} : Platform).magicAccessors)
    {h : Heap} {u sv : Value} (SU : Sta Z h "java/lang/Throwable" "UNASSIGNED_STACK" "[Ljava/lang/StackTraceElement;" u) (SS : Sta Z h "java/lang/Throwable" "SUPPRESSED_SENTINEL" "Ljava/util/List;" sv) :
    ∃ T : ThrowableC, T.Links pl S ∧ S.methodNamed? Bundle.tFill = some T.fill ∧ S.methodNamed? Bundle.tFill0 = some T.fill0 ∧ S.vm.findClass "java/lang/Throwable" = some T.cT ∧ S.fieldFound? "java/lang/Throwable" "stackTrace" "[Ljava/lang/StackTraceElement;" = some (T.cT, T.kT, T.i17, T.fStack) ∧ h[T.aS]? ≠ none ∧ (∀ cell, h[T.aS]? = some cell → cell.vm.isStatics = true ∧ cell.slots[T.fUnassigned.slot]? = some u) := by
  -- the two statics
  obtain ⟨c, i13, k0, f13, st, cl, a1, a2, a3, a4, a5, a6, a7⟩ := SU
  obtain ⟨c', i20, k0', f20, st', cl', b1, b2, b3, b4, -, -, -⟩ := SS
  obtain ⟨k, q1, q2⟩ := State.fieldFound?_setVm (s := Z) hZ.alike a1
  obtain ⟨k', r1, r2⟩ := State.fieldFound?_setVm (s := Z) hZ.alike b1
  have q1 : S.fieldFound? "java/lang/Throwable" "UNASSIGNED_STACK" "[Ljava/lang/StackTraceElement;" = some (c, k, i13, f13) := q1
  have r1 : S.fieldFound? "java/lang/Throwable" "SUPPRESSED_SENTINEL" "Ljava/util/List;" = some (c', k', i20, f20) := r1
  obtain ⟨c2, _, _, _, _, _, w1, w2, -⟩ := Cond.laysStatic_spec (wd hw (k := 87) rfl)
  obtain ⟨c3, _, _, _, _, _, w3, w4, -⟩ := Cond.laysStatic_spec (wd hw (k := 88) rfl)
  cases a1.symm.trans w2
  cases b1.symm.trans w4
  cases w1.symm.trans w3
  have hc : S.vm.findClass "java/lang/Throwable" = some c := by rw [hZ.alike.findClass]; exact w1
  obtain ⟨hk, at13⟩ := State.fieldFound?_spec q1
  obtain ⟨hk', at20⟩ := State.fieldFound?_spec r1
  cases hk.symm.trans hk'
  obtain ⟨kn, n1, hname⟩ := Vm.findClass_spec hc
  cases hk.symm.trans n1
  have V : ∀ {d : Jvm.Cond} {j : Nat}, tables_1[j]? = some d → (d.onTables && d.keepsFace) = true → d.before a0 S = true := fun e o => mv hZ (wd hw e) o
  obtain ⟨-, kk, -, -, s1, -, -, -, -, hni⟩ := Cond.superclass_spec hc (V (j := 74) rfl rfl)
  cases hk.symm.trans s1
  -- methods
  obtain ⟨iF, mF, f1, f2, f3, f4, f5, -, -⟩ := Cond.ownMethod (x := Bundle.tFill) hc hk (V (j := 69) rfl rfl)
  obtain ⟨mF', cF, g1, g2, g3, g4, g5, g6, -, g7⟩ := Cond.codeSync_spec f1 (V (j := 75) rfl rfl)
  cases f2.symm.trans g1
  obtain ⟨iN, mN, l1, l2, l3, l4, l5, l6, l7⟩ := Cond.ownMethod (x := Bundle.tFill0) hc hk (V (j := 76) rfl rfl)
  obtain ⟨mid, mN', p1, p2, p3, p4, p5, p6⟩ := Cond.native_spec (V (j := 77) rfl rfl)
  cases l1.symm.trans p1
  cases l2.symm.trans p2
  obtain ⟨mo, mO, o4, o5, o6, o7⟩ := Cond.instanceMethod_spec (V (j := 23) rfl rfl)
  obtain ⟨mO', cO, t1, t2, t3, t4, -, t6, -, t8⟩ := Cond.code_spec o4 (V (j := 24) rfl rfl)
  cases o5.symm.trans t1
  obtain ⟨kO, e1, e2⟩ := Vm.findClass_spec (findClass_of_methodNamed o4)
  obtain ⟨e3, e4⟩ := name_of_methodNamed o4 o5
  -- entries
  obtain ⟨x1, y1, cf, z1, z2, z3, z4⟩ := Cond.linkedMethod hc hk o4 (V (j := 58) rfl rfl) pl o3
  obtain ⟨x27, y27, cf27, z27, zb27, zc27, zd27⟩ := Cond.linkedMethod hc hk f1 (V (j := 67) rfl rfl) pl o3
  cases z3.symm.trans zc27
  obtain ⟨x202, y202, cf202, z202, zb202, zc202, zd202⟩ := Cond.linkedMethod hc hk l1 (V (j := 80) rfl rfl) pl o3
  cases z3.symm.trans zc202
  obtain ⟨ca, ia, fa, A1, A2, A3, A4, A5, A6, A7, A8⟩ := Cond.ownField (t := .object "java/lang/Throwable") hc hk (by decide +kernel) (V (j := 59) rfl rfl) (V (j := 60) rfl rfl) pl o3
  obtain ⟨cs, is, fs, S1, S2, S3, S4, S5, S6, S7, S8⟩ := Cond.ownField (t := .array (.object "java/lang/StackTraceElement")) hc hk (by decide +kernel) (V (j := 62) rfl rfl) (V (j := 63) rfl rfl) pl o3
  obtain ⟨cp, ip, fp, P1, P2, P3, P4, P5, P6, P7, P8⟩ := Cond.ownField (t := .object "java/util/List") hc hk (by decide +kernel) (V (j := 65) rfl rfl) (V (j := 66) rfl rfl) pl o3
  obtain ⟨cm, im, fm, M1, M2, M3, M4, M5, M6, M7, M8⟩ := Cond.ownField (t := .object "java/lang/String") hc hk (by decide +kernel) (V (j := 94) rfl rfl) (V (j := 90) rfl rfl) pl o3
  obtain ⟨cu, cc, kc, iu, fu, U1, U2, U3⟩ := Cond.fieldLink_spec hc (V (j := 61) rfl rfl) pl o3
  cases q1.symm.trans U1
  obtain ⟨cn, cd, kd, iN2, fN2, N1, N2, N3⟩ := Cond.fieldLink_spec hc (V (j := 64) rfl rfl) pl o3
  cases r1.symm.trans N1
  have sl : RoadKit.slotOf Z "java/lang/Throwable" "stackTrace" "[Ljava/lang/StackTraceElement;" ≠ RoadKit.slotOf Z "java/lang/Throwable" "suppressedExceptions" "Ljava/util/List;" := slot_ne (t := .array (.object "java/lang/StackTraceElement")) (t' := .object "java/util/List") (C := "com/example/reticolo/reticolo/service/XdsException") (Or.inl (wd hw (k := 63) rfl)) (Or.inl (wd hw (k := 66) rfl)) (by decide) (by decide +kernel) (by decide +kernel)
  have back : ∀ {n d : String} {kq : Class} {iq : Nat} {fq : Field}, (Jvm.Cond.lays "com/example/reticolo/reticolo/service/XdsException" "java/lang/Throwable" n d).before a0 Z = true → S.fieldFound? "java/lang/Throwable" n d = some (c, kq, iq, fq) → RoadKit.slotOf Z "java/lang/Throwable" n d = fq.slot := fun {n d kq iq fq} wl e => by
    obtain ⟨_, _, d1, d2, d3, d4, -, -, d5, -⟩ := Cond.lays_spec wl
    obtain ⟨k9, v1, -⟩ := State.fieldFound?_setVm (s := Z) hZ.alike d5
    have v1 : S.fieldFound? "java/lang/Throwable" n d = some (d1, k9, d3, d4) := v1
    cases v1.symm.trans e
    simp [RoadKit.slotOf, d5]
  rw [back (wd hw (k := 63) rfl) S8, back (wd hw (k := 66) rfl) P8] at sl
  have par : ∀ {x : String} {m9 : Method} {ps : List FieldType}, parseMethodDescriptor x = some m9.sig → (parseMethodDescriptor x).map (·.parameters) = some ps → m9.sig.parameters = ps := fun a b => by rw [a] at b; exact Option.some.inj b
  refine ⟨{ cT := c, kT := k, cO := c, aS := st, fillIdx := iF, fill0Idx := iN, initSIdx := iF, obj := mo, kObj := kO, methFill := mF, methFill0 := mN, methInitS := mF, methObj := mO, codeFill := cF, codeInitS := cF, codeObj := cO, fBack := fs, fDepth := fs, fStack := fs, fCause := fa, fSupp := fp, fMsg := fm, fUnassigned := f13, fSentinel := f20, cfT := cf, ci1 := x1, n1 := y1, ci27 := x27, n27 := y27, ci202 := x202, n202 := y202, ci7 := ca, i7 := ia, ci13 := cu, i13 := i13, ci17 := cs, i17 := is, ci20 := cn, i20 := i20, ci24 := cp, i24 := ip }, ?_, f1, l1, hc, S8, (by show h[st]? ≠ none; rw [a5]; simp), fun cell e => ?_⟩
  · exact { owns := o1, noFinalization := o2, cls := hk, name := hname, boot := Vm.findClass_boot hc hk, notInterface := hni, initialized := (congrArg Class.init q2).trans a3, statics := (congrArg Class.statics q2).trans a4, fillAt := f3, fillCode := g2, fillBytes := g3, fillLocals := g4, fillLocks := g6, fillStatic := f4, fillAbstract := f5, fillReturns := g5, fillParams := par g7 (by decide +kernel), fill0At := l3, fill0Name := l6, fill0Desc := l7, fill0Params := par p6 (by decide +kernel), fill0Static := l4, fill0Native := p3, fill0Code := p4, fill0Locks := p5, fill0Abstract := l5, stackInstance := S4, stackNotFinal := S5, unassignedStatic := a2, objClass := e1, objClassName := e2, objMethod := o5, objName := e3, objStatic := o6, objAbstract := o7, objFound := (by rw [e4]; exact lookupSpecial_of_named o4 o5 o6), objParams := (by rw [par (ps := []) t8 (by decide +kernel)]; rfl), objCode := t2, objBytes := t3, objLocks := t6, causeInstance := A4, causeNotFinal := A5, sentinelStatic := b2, suppInstance := P4, suppNotFinal := P5, msgInstance := M4, msgNotFinal := M5, stackApartSupp := sl, file := z3, mlink1 := z1, mright1 := z2, pool1 := z4, mlink27 := z27, mright27 := zb27, pool27 := zd27, mlink202 := z202, mright202 := zb202, pool202 := zd202, link7 := A1, right7 := A2, at7 := A3, link13 := U2, right13 := U3, at13 := at13, link17 := S1, right17 := S2, at17 := S3, link20 := N2, right20 := N3, at20 := at20, link24 := P1, right24 := P2, at24 := P3 }
  · cases a5.symm.trans e; exact ⟨a6, a7⟩

theorem own_safe0 {Z : State} {vm : Vm} {h : Heap} {x : Addr} : Safe Z [] vm h x := fun B => by obtain ⟨q, hq, -⟩ := B; cases hq
theorem own_chr {Z : State} {vm : Vm} {h h' : Heap} (g : h.size ≤ h'.size) : CHr Z [] vm h vm h' := ⟨(fun _ q => nomatch q), g, fun y q => absurd q own_safe0⟩
theorem own_takes {S : State} {cell : Cell} {k : Class} {f : Field} {v : Value} (hk : S.vm.classes[cell.cls]? = some k) (ho : k.kind = .ordinary) (hs : cell.slots.size = k.instanceTypes.size) (hv : cell.vm = .none) (ht : k.instanceTypes[f.slot]? = some f.type) (hf : fits f.type v = true) : Jvm.Takes S cell f v := by
  obtain ⟨q1, q2⟩ := Takes.of_laid (v := v) hk ho ht hf
  exact ⟨by rw [hs]; exact (Array.getElem?_eq_some_iff.mp ht).1, by rw [hv]; exact q2⟩
/-- a field's slot, read at tables that are alike -/
theorem own_at {Z S : State} (hZ : Z.Warmed39 S.vm) {C n d : String} {h : Heap} {x : Addr} {v : Value} (F : Fld Z h x C n d v) {cell : Cell} (hx : h[x]? = some cell) {c i : Nat} {k : Class} {f : Field} (e : S.fieldFound? C n d = some (c, k, i, f)) : cell.slots[f.slot]? = some v ∧ RoadKit.slotOf Z C n d = f.slot := by
  obtain ⟨cl, cf, k0, i0, f0, a1, a2, a3, a4, a5, a6, a7⟩ := F
  cases a1.symm.trans hx
  obtain ⟨k', q1, -⟩ := State.fieldFound?_setVm (s := Z) hZ.alike a2
  have q1 : S.fieldFound? C n d = some (cf, k', i0, f0) := q1
  cases q1.symm.trans e
  exact ⟨a7, by simp [RoadKit.slotOf, a2]⟩
set_option maxRecDepth 65536 in
set_option maxHeartbeats 4000000 in
/-- fillInStackTrace on a fresh XdsException, in Throwable's constructor -/
theorem own_fill {p : Program} {l : Launch} {e : Env} {R : Room} {s : State} {m : MethodId} {args : Array Value} {below : List Frame} {meth : Method} {c : Code} {code : ByteArray} {Z : State} {hS : Heap} {vm0 : Vm} {T : State} {locs : List Loc} {cells slots : Nat} {h : Heap} {a0 : Array Value} {G : Outcome → State → Prop} {pc pc1 : Nat} {ls : Array Slot} {st : List Value} {x : Addr} {Wd : Nat} {u sv : Value}
    (P : W.Pos p l e R s m args below meth c code Z [] [x] hS "java/lang/Throwable" vm0 T locs cells slots h) (hw : ∀ d ∈ tables_1, d.before a0 Z = true) (htr : l.stackTraces = true) (hTK : vm0.MethodsKnown) (hB : vm0.FramesKnown below)
    (E : Exa Z h x "com/example/reticolo/reticolo/service/XdsException") (N : Unt h x) (BT : Fld Z h x "java/lang/Throwable" "backtrace" "Ljava/lang/Object;" .null) (DP : Fld Z h x "java/lang/Throwable" "depth" "I" (.int 0)) (SX : Fld Z h x "java/lang/Throwable" "stackTrace" "[Ljava/lang/StackTraceElement;" u) (SU : Sta Z h "java/lang/Throwable" "UNASSIGNED_STACK" "[Ljava/lang/StackTraceElement;" u) (SS : Sta Z h "java/lang/Throwable" "SUPPRESSED_SENTINEL" "Ljava/util/List;" sv) (hu : u.isRef = true)
    (hsize : ls.size = c.maxLocals) (hf : 3 ≤ R.frames) (hW : (st.map fun v => v.category).sum ≤ Wd) (hlo : Wd + 42 ≤ R.locals) (hz0 : h.size = hS.size) (hc : cells + 1 ≤ R.cells) (hsl : slots + 2752 ≤ R.slots) (hd : decode code pc = .ok (.invokevirtual 27, 3)) (hp : pc + 3 = pc1)
    (K : ∀ (T' : State) (h' : Heap) (L : List Loc), W.Pos p l e R s m args below meth c code Z [] [x] hS "java/lang/Throwable" vm0 T' L (cells + 1) (slots + 2752) h' → Exa Z h' x "com/example/reticolo/reticolo/service/XdsException" →
      (∀ {O n d : String} {v : Value}, Fld Z h x O n d v → RoadKit.slotOf Z O n d ≠ RoadKit.slotOf Z "java/lang/Throwable" "backtrace" "Ljava/lang/Object;" → RoadKit.slotOf Z O n d ≠ RoadKit.slotOf Z "java/lang/Throwable" "depth" "I" → RoadKit.slotOf Z O n d ≠ RoadKit.slotOf Z "java/lang/Throwable" "stackTrace" "[Ljava/lang/StackTraceElement;" → Fld Z h' x O n d v) → W.Go p.tables e below G (T'.setTop (mkF m pc1 ls (.ref x :: st)))) :
    W.Go p.tables e below G (T.setTop (mkF m pc ls (.ref x :: st))) := by
  subst hp
  have hZ : Z.Warmed39 (s.setVm vm0).vm := P.hz
  have V : ∀ {d : Jvm.Cond} {j : Nat}, tables_1[j]? = some d → (d.onTables && d.keepsFace) = true → d.before args (s.setVm vm0) = true := fun e o => mv hZ (wd hw e) o
  obtain ⟨Th, L, hF, hF0, hT, hS8, hA, hAS⟩ := own_thr (S := s.setVm vm0) (pl := e.platform) hw hZ (by rw [P.1.admits.platform]) (by rw [P.1.admits.platform]) (by rw [P.1.admits.platform]) SU SS
  obtain ⟨cell, n1, n2, n3⟩ := N
  obtain ⟨cellS, hcS⟩ := Option.ne_none_iff_exists'.mp hA
  obtain ⟨hiS, hvU⟩ := hAS cellS hcS
  obtain ⟨cx, kx, x1, x2, x3, x4, x5⟩ := E
  cases n1.symm.trans x1
  obtain ⟨ci, ki, i1, i2, i3, -⟩ := Cond.instantiable_spec (wd hw (k := 42) rfl)
  cases x2.symm.trans i1
  cases x3.symm.trans i2
  obtain ⟨kX, y1, y2⟩ := hZ.alike.2.2 _ _ x3
  have hfX : (s.setVm vm0).vm.findClass "com/example/reticolo/reticolo/service/XdsException" = some cell.cls := by rw [hZ.alike.findClass]; exact x2
  have hoX : kX.kind = .ordinary := by rw [y2]; exact i3
  have hzX : cell.slots.size = kX.instanceTypes.size := by rw [y2]; exact x5 i3
  -- the fields at the tables of the walk
  obtain ⟨cb, ib, fb, b1, b2, b3, b4, b5, b6, b7, b8⟩ := Cond.ownField (t := .object "java/lang/Object") hT L.cls (by decide +kernel) (V (j := 85) rfl rfl) (V (j := 91) rfl rfl) e.platform (by rw [P.1.admits.platform])
  obtain ⟨-, -, cd, kd, id_, fd, -, -, d5, d6, -, -, -, -⟩ := Cond.lays_spec (V (j := 92) rfl rfl)
  cases Option.some.inj ((Cond.lays_declared (V (j := 92) rfl rfl) d5).symm.trans hT)
  obtain ⟨d7, d8⟩ := State.fieldFound?_spec d5
  cases d7.symm.trans L.cls
  obtain ⟨d9, d10⟩ := State.fieldFound?_type d5 (t := .int) (by decide +kernel)
  have tyB := (Cond.laysAt hfX y1 b8 (V (j := 91) rfl rfl)).1
  have tyD := (Cond.laysAt hfX y1 d5 (V (j := 92) rfl rfl)).1
  have tyS := (Cond.laysAt hfX y1 hS8 (V (j := 63) rfl rfl)).1
  have hsT := (State.fieldFound?_type hS8 (t := .array (.object "java/lang/StackTraceElement")) (by decide +kernel)).2
  obtain ⟨vB, eB⟩ := own_at hZ BT n1 b8
  obtain ⟨vD, eD⟩ := own_at hZ DP n1 d5
  obtain ⟨vS, eS⟩ := own_at hZ SX n1 hS8
  obtain ⟨comp, cO, kO, -, -, o1, o2, o3⟩ := Cond.arrayOver_spec (Cond.arrayOver_alike (a' := args) hZ.alike (wd hw (k := 71) rfl))
  have hsel : selectMethod e.platform (s.setVm vm0).vm cell.cls Th.fill0 = .method Th.fill0 := by
    obtain ⟨c2, r2, m2, q1, q2, q3, q4, -⟩ := Cond.selects_spec (V (j := 89) rfl rfl)
    cases q1.symm.trans hfX
    cases q2.symm.trans (State.methodFound?_of_named hF0 (by decide))
    cases q3.symm.trans hF0
    rw [Launch.admits_selectMethod P.1.admits]; exact q4
  have hne : Th.aS ≠ x := fun q => by
    rw [q] at hcS; cases n1.symm.trans hcS
    rw [n2] at hiS; cases hiS
  have hK := Jvm.Free.Exc.fillPaysAny (l := l) (R := R) (p := p) (e := e) (below := below) (s := s.setVm vm0) (sargs := args) (len := 3) (W := Wd) P.q.2.1 (by rw [P.1.admits.platform]; exact htr) Th L hF (u0 := ⟨u, hu⟩) (self := x) (cell := cell) (cellS := cellS) (by rw [n2]; simp) (by rw [n2]; simp) (by rw [n3]) (by rw [n3]) vS hsel hne (by intro q; rw [q] at hiS; cases hiS) hvU
    (own_takes y1 hoX hzX n2 tyS (by rw [hsT]; rcases ref_cases hu with rfl | ⟨z, rfl⟩ <;> rfl)) ⟨⟨cb, ib, fb⟩, ⟨b1, b2, b3, b4⟩, vB⟩ hTK hB hT o3 o1 o2
    (Cond.soleField_find hT L.cls (V (j := 72) rfl rfl) b3 b6 b4) (Cond.soleField_find hT L.cls (V (j := 73) rfl rfl) d8 d9 d6)
    (fun a => own_takes y1 hoX hzX n2 tyB (by rw [b7]; rfl)) (fun n => own_takes y1 hoX hzX n2 tyD (by rw [d10]; rfl)) hf hlo
  obtain ⟨cq, kq, qa, qb, qc⟩ := isOf P.hz P.heap (⟨cell, kx, x1, x2, x3, x4, x5⟩ : Exa Z h x "com/example/reticolo/reticolo/service/XdsException")
  obtain ⟨v, vm₁, ⟨U, Lx, c9, s9⟩, -, X', ⟨hv, C, k, e1, e2, e3, e4, e5, e6, e7, e8, e9⟩, stp⟩ := Stand.virtualBack P.1 P.q.2.1 (y := Bundle.tFill) (z := Bundle.tFill) P.2.2.2.2.1 (V (j := 67) rfl rfl) (V (j := 68) rfl rfl)
    (notFace_of_selects (args := args) (V (j := 70) rfl rfl)) (V (j := 70) rfl rfl) (V (j := 69) rfl rfl) (by decide) hK qa qc (g := mkF m pc ls (.ref x :: st)) rfl hsize (Steps.refl _) (argsL := []) (rest := st) (fun sig q => by
      have : (parseMethodDescriptor Bundle.tFill.desc).map (·.parameters) = some [] := by decide +kernel
      rw [q] at this; have t2 : sig.parameters = [] := Option.some.inj this; rw [t2]; rfl) rfl (by show 2 * 0 + _ ≤ _; omega) (hb P.q.2.2 hd) (fun vm9 _ => ⟨rfl, hc, hsl, by show T.heap[x]? = _; rw [P.heap]; exact n1, by show T.heap[Th.aS]? = _; rw [P.heap]; exact hcS⟩)
  dsimp only [Pt.U, Pt.locs, Pt.cells, Pt.slots] at *
  subst hv e7 e8 e9
  have PP := P.came (X'.mono (Nat.le_refl _) (Nat.add_le_add_left e1 slots)) (fun y hy => by
    simp only [List.mem_cons, List.not_mem_nil, or_false] at hy
    rcases hy with rfl | rfl | rfl <;> exact Or.inl (List.mem_singleton.mpr rfl)) (own_chr (by
      have g1 := X'.same.2.1
      rw [hz0, ← P.2.2.2.2.2.2.1]; exact g1))
  refine W.Go.tr stp (K U _ _ PP ⟨C, kx, e2, by rw [e3]; exact x2, by rw [e3]; exact x3, by rw [e4]; exact x4, fun q => by rw [e5]; exact x5 q⟩ ?_)
  intro O n d v F q1 q2 q3
  obtain ⟨cl, cf, k0, i0, f0, a1, a2, a3, a4, a5, a6, a7⟩ := F
  cases a1.symm.trans n1
  have es : RoadKit.slotOf Z O n d = f0.slot := by simp [RoadKit.slotOf, a2]
  rw [es, eB] at q1; rw [es, eD] at q2; rw [es, eS] at q3
  exact ⟨C, cf, k0, i0, f0, e2, a2, a3, by rw [e4]; exact a4, by rw [e4]; exact a5, by rw [e3]; exact a6, by rw [e6 _ q1 q2 q3]; exact a7⟩

def own_Fresh (Z : State) (h : Heap) (x : Addr) : Prop := Exa Z h x "com/example/reticolo/reticolo/service/XdsException" ∧ Unt h x ∧ Fld Z h x "java/lang/Throwable" "backtrace" "Ljava/lang/Object;" .null ∧ Fld Z h x "java/lang/Throwable" "depth" "I" (.int 0) ∧ Fld Z h x "java/lang/Throwable" "cause" "Ljava/lang/Throwable;" .null ∧ Fld Z h x "java/lang/Throwable" "stackTrace" "[Ljava/lang/StackTraceElement;" .null ∧ Fld Z h x "java/lang/Throwable" "suppressedExceptions" "Ljava/util/List;" .null ∧ Fld Z h x "java/lang/Throwable" "detailMessage" "Ljava/lang/String;" .null ∧ Fld Z h x "com/example/reticolo/reticolo/service/XdsException" "code" "Lcom/example/reticolo/reticolo/model/XdsErrorCode;" .null
def QT (Z : State) (x tx : Addr) (h0 : Heap) (v : Option Value) (h : Heap) (L : List Loc) : Prop := v = none ∧ W.Frw [x] h0.size L ∧ Keep h0 h [x] ∧ Exa Z h x "com/example/reticolo/reticolo/service/XdsException" ∧ Fld Z h x "com/example/reticolo/reticolo/service/XdsException" "code" "Lcom/example/reticolo/reticolo/model/XdsErrorCode;" .null ∧ Fld Z h x "java/lang/Throwable" "detailMessage" "Ljava/lang/String;" (.ref tx)
abbrev rmT : Room := ({ frames := 3, cells := 1, slots := 2752, locals := 42 } : Room)
abbrev rmEx : Room := ({ frames := 4, cells := 1, slots := 2752, locals := 55 } : Room)
theorem own_ra {C : String} {v : Value} (h : v.isRef = true) : narrow (.array (.object C)) v = v ∧ fits (.array (.object C)) v = true := by cases v <;> first | (cases h; done) | exact ⟨rfl, rfl⟩
set_option maxRecDepth 65536 in
set_option maxHeartbeats 40000000 in
theorem c_thr (l : Launch) (Z : State) (a0 : Array Value) (hw : ∀ d ∈ tables_1, d.before a0 Z = true) (htr : l.stackTraces = true) (u sv : Value) (hu : u.isRef = true) (hsv : sv.isRef = true) (x tx : Addr) (h0 : Heap) (SU : Sta Z h0 "java/lang/Throwable" "UNASSIGNED_STACK" "[Ljava/lang/StackTraceElement;" u) (SS : Sta Z h0 "java/lang/Throwable" "SUPPRESSED_SENTINEL" "Ljava/util/List;" sv) (FR : own_Fresh Z h0 x) : W.MetNK l Z (⟨"java/lang/Throwable", "<init>", "(Ljava/lang/String;)V"⟩ : MethodName) jdk_78_method_2_code 2 ((Option.none : Option Jvm.ClassFile.FieldType)) [] rmT #[.ref x, .ref tx] h0 (QT Z x tx h0) := by
  refine W.MetNK.mk (ls0 := #[.val (.ref x), .val (.ref tx)]) [x] (plainFor_of_name pn_java_lang_Throwable) (fun m => by first | (simp [entryFrame, mkF, argsToLocals, Value.category]; done) | rfl) ?_
  intro p e s m below meth c s₁ hml hret hnm hlk hTK hBel P0
  show W.Go p.tables e below _ (s₁.setTop (mkF m 0 #[.val (.ref x), .val (.ref tx)] []))
  obtain ⟨E0, N0, B0, D0, Ca0, St0, Su0, M0, F0⟩ := FR
  refine W.g_aloadN (pc1 := 1) P0.q d11_0 rfl rfl rfl ?_
  refine P0.initO (pc1 := 4) (W := 0) (wd hw (k := 58) rfl) (wd hw (k := 23) rfl) (wd hw (k := 24) rfl) (by rw [hml]; rfl) (by decide) (Nat.le_of_eq rfl) (by decide) d11_1 rfl ?_
  intro T141 P141
  refine W.g_aloadN (pc1 := 5) P141.q d11_4 rfl rfl rfl ?_
  refine W.g_aloadN (pc1 := 6) P141.q d11_5 rfl rfl rfl ?_
  refine P141.putF (host := "") (pc1 := 9) (Or.inl (wd hw (k := 59) rfl)) Via.refl Ca0 E0 (Or.inl (wd hw (k := 60) rfl)) (wd hw (k := 42) rfl) (ty := (.object "java/lang/Throwable")) (by decide) rfl rfl (Or.inl (List.mem_singleton.mpr rfl)) own_safe0 d11_6 rfl ?_
  intro T142 h142 P142 W142
  have G142_backtrace := B0.other W142 (Or.inr (slot_ne (C := "com/example/reticolo/reticolo/service/XdsException") (t := (.object "java/lang/Object")) (t' := (.object "java/lang/Throwable")) (Or.inl (wd hw (k := 91) rfl)) (Or.inl (wd hw (k := 60) rfl)) (by decide) (by decide +kernel) (by decide +kernel)))
  have G142_depth := D0.other W142 (Or.inr (slot_ne (C := "com/example/reticolo/reticolo/service/XdsException") (t := .int) (t' := (.object "java/lang/Throwable")) (Or.inl (wd hw (k := 92) rfl)) (Or.inl (wd hw (k := 60) rfl)) (by decide) (by decide +kernel) (by decide +kernel)))
  have G142_cause := Ca0.same W142
  have G142_stackTrace := St0.other W142 (Or.inr (slot_ne (C := "com/example/reticolo/reticolo/service/XdsException") (t := (.array (.object "java/lang/StackTraceElement"))) (t' := (.object "java/lang/Throwable")) (Or.inl (wd hw (k := 63) rfl)) (Or.inl (wd hw (k := 60) rfl)) (by decide) (by decide +kernel) (by decide +kernel)))
  have G142_suppressedExceptions := Su0.other W142 (Or.inr (slot_ne (C := "com/example/reticolo/reticolo/service/XdsException") (t := (.object "java/util/List")) (t' := (.object "java/lang/Throwable")) (Or.inl (wd hw (k := 66) rfl)) (Or.inl (wd hw (k := 60) rfl)) (by decide) (by decide +kernel) (by decide +kernel)))
  have G142_detailMessage := M0.other W142 (Or.inr (slot_ne (C := "com/example/reticolo/reticolo/service/XdsException") (t := (.object "java/lang/String")) (t' := (.object "java/lang/Throwable")) (Or.inl (wd hw (k := 90) rfl)) (Or.inl (wd hw (k := 60) rfl)) (by decide) (by decide +kernel) (by decide +kernel)))
  have G142_code := F0.other W142 (Or.inr (slot_ne (C := "com/example/reticolo/reticolo/service/XdsException") (t := (.object "com/example/reticolo/reticolo/model/XdsErrorCode")) (t' := (.object "java/lang/Throwable")) (Or.inr (wd hw (k := 96) rfl)) (Or.inl (wd hw (k := 60) rfl)) (by decide) (by decide +kernel) (by decide +kernel)))
  have E142 := E0.wr W142
  have N142 := N0.wr W142
  have SU142 := SU.wr W142
  have SS142 := SS.wr W142
  have z142 := W142.size
  refine W.g_aloadN (pc1 := 10) P142.q d11_9 rfl rfl rfl ?_
  refine P142.getS (pc1 := 13) (wd hw (k := 61) rfl) Via.refl SU142 d11_10 rfl ?_
  intro T143 P143
  refine P143.putF (host := "") (pc1 := 16) (Or.inl (wd hw (k := 62) rfl)) Via.refl G142_stackTrace E142 (Or.inl (wd hw (k := 63) rfl)) (wd hw (k := 42) rfl) (ty := (.array (.object "java/lang/StackTraceElement"))) (by decide) (own_ra hu).1 (own_ra hu).2 (Or.inl (List.mem_singleton.mpr rfl)) own_safe0 d11_13 rfl ?_
  intro T144 h144 P144 W144
  have G144_backtrace := G142_backtrace.other W144 (Or.inr (slot_ne (C := "com/example/reticolo/reticolo/service/XdsException") (t := (.object "java/lang/Object")) (t' := (.array (.object "java/lang/StackTraceElement"))) (Or.inl (wd hw (k := 91) rfl)) (Or.inl (wd hw (k := 63) rfl)) (by decide) (by decide +kernel) (by decide +kernel)))
  have G144_depth := G142_depth.other W144 (Or.inr (slot_ne (C := "com/example/reticolo/reticolo/service/XdsException") (t := .int) (t' := (.array (.object "java/lang/StackTraceElement"))) (Or.inl (wd hw (k := 92) rfl)) (Or.inl (wd hw (k := 63) rfl)) (by decide) (by decide +kernel) (by decide +kernel)))
  have G144_cause := G142_cause.other W144 (Or.inr (slot_ne (C := "com/example/reticolo/reticolo/service/XdsException") (t := (.object "java/lang/Throwable")) (t' := (.array (.object "java/lang/StackTraceElement"))) (Or.inl (wd hw (k := 60) rfl)) (Or.inl (wd hw (k := 63) rfl)) (by decide) (by decide +kernel) (by decide +kernel)))
  have G144_stackTrace := G142_stackTrace.same W144
  have G144_suppressedExceptions := G142_suppressedExceptions.other W144 (Or.inr (slot_ne (C := "com/example/reticolo/reticolo/service/XdsException") (t := (.object "java/util/List")) (t' := (.array (.object "java/lang/StackTraceElement"))) (Or.inl (wd hw (k := 66) rfl)) (Or.inl (wd hw (k := 63) rfl)) (by decide) (by decide +kernel) (by decide +kernel)))
  have G144_detailMessage := G142_detailMessage.other W144 (Or.inr (slot_ne (C := "com/example/reticolo/reticolo/service/XdsException") (t := (.object "java/lang/String")) (t' := (.array (.object "java/lang/StackTraceElement"))) (Or.inl (wd hw (k := 90) rfl)) (Or.inl (wd hw (k := 63) rfl)) (by decide) (by decide +kernel) (by decide +kernel)))
  have G144_code := G142_code.other W144 (Or.inr (slot_ne (C := "com/example/reticolo/reticolo/service/XdsException") (t := (.object "com/example/reticolo/reticolo/model/XdsErrorCode")) (t' := (.array (.object "java/lang/StackTraceElement"))) (Or.inr (wd hw (k := 96) rfl)) (Or.inl (wd hw (k := 63) rfl)) (by decide) (by decide +kernel) (by decide +kernel)))
  have E144 := E142.wr W144
  have N144 := N142.wr W144
  have SU144 := SU142.wr W144
  have SS144 := SS142.wr W144
  have z144 := W144.size
  refine W.g_aloadN (pc1 := 17) P144.q d11_16 rfl rfl rfl ?_
  refine P144.getS (pc1 := 20) (wd hw (k := 64) rfl) Via.refl SS144 d11_17 rfl ?_
  intro T145 P145
  refine P145.putF (host := "") (pc1 := 23) (Or.inl (wd hw (k := 65) rfl)) Via.refl G144_suppressedExceptions E144 (Or.inl (wd hw (k := 66) rfl)) (wd hw (k := 42) rfl) (ty := (.object "java/util/List")) (by decide) (own_rf hsv).1 (own_rf hsv).2 (Or.inl (List.mem_singleton.mpr rfl)) own_safe0 d11_20 rfl ?_
  intro T146 h146 P146 W146
  have G146_backtrace := G144_backtrace.other W146 (Or.inr (slot_ne (C := "com/example/reticolo/reticolo/service/XdsException") (t := (.object "java/lang/Object")) (t' := (.object "java/util/List")) (Or.inl (wd hw (k := 91) rfl)) (Or.inl (wd hw (k := 66) rfl)) (by decide) (by decide +kernel) (by decide +kernel)))
  have G146_depth := G144_depth.other W146 (Or.inr (slot_ne (C := "com/example/reticolo/reticolo/service/XdsException") (t := .int) (t' := (.object "java/util/List")) (Or.inl (wd hw (k := 92) rfl)) (Or.inl (wd hw (k := 66) rfl)) (by decide) (by decide +kernel) (by decide +kernel)))
  have G146_cause := G144_cause.other W146 (Or.inr (slot_ne (C := "com/example/reticolo/reticolo/service/XdsException") (t := (.object "java/lang/Throwable")) (t' := (.object "java/util/List")) (Or.inl (wd hw (k := 60) rfl)) (Or.inl (wd hw (k := 66) rfl)) (by decide) (by decide +kernel) (by decide +kernel)))
  have G146_stackTrace := G144_stackTrace.other W146 (Or.inr (slot_ne (C := "com/example/reticolo/reticolo/service/XdsException") (t := (.array (.object "java/lang/StackTraceElement"))) (t' := (.object "java/util/List")) (Or.inl (wd hw (k := 63) rfl)) (Or.inl (wd hw (k := 66) rfl)) (by decide) (by decide +kernel) (by decide +kernel)))
  have G146_suppressedExceptions := G144_suppressedExceptions.same W146
  have G146_detailMessage := G144_detailMessage.other W146 (Or.inr (slot_ne (C := "com/example/reticolo/reticolo/service/XdsException") (t := (.object "java/lang/String")) (t' := (.object "java/util/List")) (Or.inl (wd hw (k := 90) rfl)) (Or.inl (wd hw (k := 66) rfl)) (by decide) (by decide +kernel) (by decide +kernel)))
  have G146_code := G144_code.other W146 (Or.inr (slot_ne (C := "com/example/reticolo/reticolo/service/XdsException") (t := (.object "com/example/reticolo/reticolo/model/XdsErrorCode")) (t' := (.object "java/util/List")) (Or.inr (wd hw (k := 96) rfl)) (Or.inl (wd hw (k := 66) rfl)) (by decide) (by decide +kernel) (by decide +kernel)))
  have E146 := E144.wr W146
  have N146 := N144.wr W146
  have SU146 := SU144.wr W146
  have SS146 := SS144.wr W146
  have z146 := W146.size
  refine W.g_aloadN (pc1 := 24) P146.q d11_23 rfl rfl rfl ?_
  refine own_fill (pc1 := 27) (Wd := 0) P146 hw htr hTK hBel E146 N146 G146_backtrace G146_depth G146_stackTrace SU146 SS146 hu (by rw [hml]; rfl) (by decide) (Nat.le_of_eq rfl) (by decide) (by rw [z146, z144, z142]) (by decide) (by decide) d11_24 rfl ?_
  intro T147 h147 L147 P147 E147 kf147
  have G147_code := kf147 G146_code (slot_ne (C := "com/example/reticolo/reticolo/service/XdsException") (t := (.object "com/example/reticolo/reticolo/model/XdsErrorCode")) (t' := (.object "java/lang/Object")) (Or.inr (wd hw (k := 96) rfl)) (Or.inl (wd hw (k := 91) rfl)) (by decide) (by decide +kernel) (by decide +kernel)) (slot_ne (C := "com/example/reticolo/reticolo/service/XdsException") (t := (.object "com/example/reticolo/reticolo/model/XdsErrorCode")) (t' := .int) (Or.inr (wd hw (k := 96) rfl)) (Or.inl (wd hw (k := 92) rfl)) (by decide) (by decide +kernel) (by decide +kernel)) (slot_ne (C := "com/example/reticolo/reticolo/service/XdsException") (t := (.object "com/example/reticolo/reticolo/model/XdsErrorCode")) (t' := (.array (.object "java/lang/StackTraceElement"))) (Or.inr (wd hw (k := 96) rfl)) (Or.inl (wd hw (k := 63) rfl)) (by decide) (by decide +kernel) (by decide +kernel))
  have G147_detailMessage := kf147 G146_detailMessage (slot_ne (C := "com/example/reticolo/reticolo/service/XdsException") (t := (.object "java/lang/String")) (t' := (.object "java/lang/Object")) (Or.inl (wd hw (k := 90) rfl)) (Or.inl (wd hw (k := 91) rfl)) (by decide) (by decide +kernel) (by decide +kernel)) (slot_ne (C := "com/example/reticolo/reticolo/service/XdsException") (t := (.object "java/lang/String")) (t' := .int) (Or.inl (wd hw (k := 90) rfl)) (Or.inl (wd hw (k := 92) rfl)) (by decide) (by decide +kernel) (by decide +kernel)) (slot_ne (C := "com/example/reticolo/reticolo/service/XdsException") (t := (.object "java/lang/String")) (t' := (.array (.object "java/lang/StackTraceElement"))) (Or.inl (wd hw (k := 90) rfl)) (Or.inl (wd hw (k := 63) rfl)) (by decide) (by decide +kernel) (by decide +kernel))
  refine W.g_pop (pc1 := 28) P147.q d11_27 rfl rfl ?_
  refine W.g_aloadN (pc1 := 29) P147.q d11_28 rfl rfl rfl ?_
  refine W.g_aloadN (pc1 := 30) P147.q d11_29 rfl rfl rfl ?_
  refine P147.putF (host := "") (pc1 := 33) (Or.inl (wd hw (k := 94) rfl)) Via.refl G147_detailMessage E147 (Or.inl (wd hw (k := 90) rfl)) (wd hw (k := 42) rfl) (ty := (.object "java/lang/String")) (by decide) rfl rfl (Or.inl (List.mem_singleton.mpr rfl)) own_safe0 d11_30 rfl ?_
  intro T148 h148 P148 W148
  have Gm := G147_detailMessage.same W148
  have Gc := G147_code.other W148 (Or.inr (slot_ne (C := "com/example/reticolo/reticolo/service/XdsException") (t := (.object "com/example/reticolo/reticolo/model/XdsErrorCode")) (t' := (.object "java/lang/String")) (Or.inr (wd hw (k := 96) rfl)) (Or.inl (wd hw (k := 90) rfl)) (by decide) (by decide +kernel) (by decide +kernel)))
  exact P148.retN hlk hret d11_33 (by decide) (by decide) ⟨rfl, P148.fr, P148.keep, E147.wr W148, Gc, Gm⟩
set_option maxRecDepth 65536 in
set_option maxHeartbeats 40000000 in
theorem c_exc (l : Launch) (Z : State) (a0 : Array Value) (hw : ∀ d ∈ tables_1, d.before a0 Z = true) (htr : l.stackTraces = true) (u sv : Value) (hu : u.isRef = true) (hsv : sv.isRef = true) (x tx : Addr) (h0 : Heap) (SU : Sta Z h0 "java/lang/Throwable" "UNASSIGNED_STACK" "[Ljava/lang/StackTraceElement;" u) (SS : Sta Z h0 "java/lang/Throwable" "SUPPRESSED_SENTINEL" "Ljava/util/List;" sv) (FR : own_Fresh Z h0 x) : W.MetNK l Z (⟨"java/lang/Exception", "<init>", "(Ljava/lang/String;)V"⟩ : MethodName) jdk_59_method_2_code 2 ((Option.none : Option Jvm.ClassFile.FieldType)) [] rmEx #[.ref x, .ref tx] h0 (QT Z x tx h0) := by
  refine W.MetNK.mk (ls0 := #[.val (.ref x), .val (.ref tx)]) [x] (plainFor_of_name pn_java_lang_Exception) (fun m => by first | (simp [entryFrame, mkF, argsToLocals, Value.category]; done) | rfl) ?_
  intro p e s m below meth c s₁ hml hret hnm hlk hTK hBel P0
  show W.Go p.tables e below _ (s₁.setTop (mkF m 0 #[.val (.ref x), .val (.ref tx)] []))
  refine W.g_aloadN (pc1 := 1) P0.q d10_0 rfl rfl rfl ?_
  refine W.g_aloadN (pc1 := 2) P0.q d10_1 rfl rfl rfl ?_
  refine P0.callN (pc1 := 5) rfl (wd hw (k := 52) rfl) (wd hw (k := 53) rfl) (wd hw (k := 57) rfl) (by decide) (W.MetNK.pay (W := 0) (c_thr l Z a0 hw htr u sv hu hsv x tx h0 SU SS FR) P0 hTK hBel (wd hw (k := 57) rfl) (wd hw (k := 56) rfl) (by decide) (by decide)) (argsL := [(.ref tx)]) (st0 := []) (lenOf pd_Ljava_lang_String_R_V rfl) rfl rfl (Nat.le_of_eq rfl) (by rw [hml]; rfl) (by decide) (by decide) (fun _ _ _ q => ⟨q.2.1.up P0.sz (allS (Or.inl (List.mem_singleton.mpr rfl)) all0), CHr.keep q.2.2.1 (sfS own_safe0 sf0) P0.chv⟩) d10_2 rfl ?_
  intro v149 T149 h149 L149 q149 P149
  obtain ⟨rfl, f149, K149, A149, F149, M149⟩ := q149
  show W.Go p.tables e below _ (T149.setTop (mkF m 5 #[.val (.ref x), .val (.ref tx)] []))
  exact P149.retN hlk hret d10_5 (by decide) (by decide) ⟨rfl, P149.fr, P149.keep, A149, F149, M149⟩
def QX (Z : State) (x co tx : Addr) (h0 : Heap) (v : Option Value) (h : Heap) (L : List Loc) : Prop := v = none ∧ W.Frw [x] h0.size L ∧ Keep h0 h [x] ∧ Exa Z h x "com/example/reticolo/reticolo/service/XdsException" ∧ Fld Z h x "com/example/reticolo/reticolo/service/XdsException" "code" "Lcom/example/reticolo/reticolo/model/XdsErrorCode;" (.ref co) ∧ Fld Z h x "java/lang/Throwable" "detailMessage" "Ljava/lang/String;" (.ref tx)
abbrev rmX : Room := ({ frames := 5, cells := 1, slots := 2752, locals := 80 } : Room)
set_option maxRecDepth 65536 in
set_option maxHeartbeats 40000000 in
theorem c_xe (l : Launch) (Z : State) (a0 : Array Value) (hw : ∀ d ∈ tables_1, d.before a0 Z = true) (htr : l.stackTraces = true) (u sv : Value) (hu : u.isRef = true) (hsv : sv.isRef = true) (x tx : Addr) (h0 : Heap) (SU : Sta Z h0 "java/lang/Throwable" "UNASSIGNED_STACK" "[Ljava/lang/StackTraceElement;" u) (SS : Sta Z h0 "java/lang/Throwable" "SUPPRESSED_SENTINEL" "Ljava/util/List;" sv) (FR : own_Fresh Z h0 x) (co : Addr) : W.MetNK l Z (⟨"com/example/reticolo/reticolo/service/XdsException", "<init>", "(Lcom/example/reticolo/reticolo/model/XdsErrorCode;Ljava/lang/String;)V"⟩ : MethodName) prog_24_method_1_code 3 ((Option.none : Option Jvm.ClassFile.FieldType)) [] rmX #[.ref x, .ref co, .ref tx] h0 (QX Z x co tx h0) := by
  refine W.MetNK.mk (ls0 := #[.val (.ref x), .val (.ref co), .val (.ref tx)]) [x] (plainFor_of_name pn_com_example_reticolo_reticolo_service_XdsException) (fun m => by first | (simp [entryFrame, mkF, argsToLocals, Value.category]; done) | rfl) ?_
  intro p e s m below meth c s₁ hml hret hnm hlk hTK hBel P0
  show W.Go p.tables e below _ (s₁.setTop (mkF m 0 #[.val (.ref x), .val (.ref co), .val (.ref tx)] []))
  refine W.g_aloadN (pc1 := 1) P0.q d9_0 rfl rfl rfl ?_
  refine W.g_aloadN (pc1 := 2) P0.q d9_1 rfl rfl rfl ?_
  refine P0.callN (pc1 := 5) rfl (wd hw (k := 47) rfl) (wd hw (k := 48) rfl) (wd hw (k := 51) rfl) (by decide) (W.MetNK.pay (W := 0) (c_exc l Z a0 hw htr u sv hu hsv x tx h0 SU SS FR) P0 hTK hBel (wd hw (k := 51) rfl) (wd hw (k := 50) rfl) (by decide) (by decide)) (argsL := [(.ref tx)]) (st0 := []) (lenOf pd_Ljava_lang_String_R_V rfl) rfl rfl (Nat.le_of_eq rfl) (by rw [hml]; rfl) (by decide) (by decide) (fun _ _ _ q => ⟨q.2.1.up P0.sz (allS (Or.inl (List.mem_singleton.mpr rfl)) all0), CHr.keep q.2.2.1 (sfS own_safe0 sf0) P0.chv⟩) d9_2 rfl ?_
  intro v150 T150 h150 L150 q150 P150
  obtain ⟨rfl, f150, K150, A150, F150, M150⟩ := q150
  show W.Go p.tables e below _ (T150.setTop (mkF m 5 #[.val (.ref x), .val (.ref co), .val (.ref tx)] []))
  refine W.g_aloadN (pc1 := 6) P150.q d9_5 rfl rfl rfl ?_
  refine W.g_aloadN (pc1 := 7) P150.q d9_6 rfl rfl rfl ?_
  refine P150.putF (host := "") (pc1 := 10) (Or.inl (wd hw (k := 95) rfl)) Via.refl F150 A150 (Or.inr ⟨(wd hw (k := 96) rfl), rfl, hnm⟩) (wd hw (k := 42) rfl) (ty := (.object "com/example/reticolo/reticolo/model/XdsErrorCode")) (by decide) rfl rfl (Or.inl (List.mem_singleton.mpr rfl)) own_safe0 d9_7 rfl ?_
  intro T151 h151 P151 W151
  have M1 := M150.other W151 (Or.inr (slot_ne (C := "com/example/reticolo/reticolo/service/XdsException") (t := (.object "java/lang/String")) (t' := (.object "com/example/reticolo/reticolo/model/XdsErrorCode")) (Or.inl (wd hw (k := 90) rfl)) (Or.inr (wd hw (k := 96) rfl)) (by decide) (by decide +kernel) (by decide +kernel)))
  exact P151.retN hlk hret d9_10 (by decide) (by decide) ⟨rfl, P151.fr, P151.keep, A150.wr W151, F150.same W151, M1⟩
abbrev rmRec : Room := ({ frames := 1, cells := 0, slots := 0, locals := 12 } : Room)
set_option maxRecDepth 65536 in
set_option maxHeartbeats 40000000 in
theorem rec0 (l : Launch) (Z : State) (a0 : Array Value) (hw : ∀ d ∈ tables_1, d.before a0 Z = true) (x : Addr) (h0 : Heap) : W.MetN l Z (⟨"java/lang/Record", "<init>", "()V"⟩ : MethodName) jdk_30_method_1_code 1 none [] rmRec #[.ref x] h0 (W.Pure none h0) := by
  refine W.MetN.mk (ls0 := #[.val (.ref x)]) [] (plainFor_of_name pn_java_lang_Record) (fun m => by first | (simp [entryFrame, mkF, argsToLocals, Value.category]; done) | rfl) ?_
  intro p e s m below meth c s₁ hml hret hnm hlk P0
  show W.Go p.tables e below _ (s₁.setTop (mkF m 0 #[.val (.ref x)] []))
  refine W.g_aloadN (pc1 := 1) P0.q d17_0 rfl rfl rfl ?_
  refine P0.initO (pc1 := 4) (W := 0) (wd hw (k := 119) rfl) (wd hw (k := 23) rfl) (wd hw (k := 24) rfl) (by rw [hml]; rfl) (by decide) (Nat.le_of_eq rfl) (by decide) d17_1 rfl ?_
  intro T152 P152
  exact P152.retN hlk hret d17_4 (by decide) (by decide) ⟨rfl, rfl, rfl⟩
set_option maxRecDepth 65536 in
set_option maxHeartbeats 40000000 in
theorem c_msg (l : Launch) (Z : State) (a0 : Array Value) (hw : ∀ d ∈ tables_1, d.before a0 Z = true) (x : Addr) (q : Addr) (h0 : Heap) (F0 : Fld Z h0 x "java/lang/Throwable" "detailMessage" "Ljava/lang/String;" (.ref q)) : W.MetN l Z (⟨"java/lang/Throwable", "getMessage", "()Ljava/lang/String;"⟩ : MethodName) jdk_78_method_6_code 1 ((Option.some (Jvm.ClassFile.FieldType.object "java/lang/String"))) [] ({ frames := 0, cells := 0, slots := 0, locals := 0 } : Room) #[.ref x]  h0 (W.Pure (some (.ref q)) h0) := by
  refine W.MetN.mk (ls0 := #[.val (.ref x)]) [] (plainFor_of_name pn_java_lang_Throwable) (fun m => by first | (simp [entryFrame, mkF, argsToLocals, Value.category]; done) | rfl) ?_
  intro p e s m below meth c s₁ hml hret hnm hlk P0
  show W.Go p.tables e below _ (s₁.setTop (mkF m 0 #[.val (.ref x)] []))
  refine W.g_aloadN (pc1 := 1) P0.q d15_0 rfl rfl rfl ?_
  refine P0.getF (host := "") (pc1 := 4) (Or.inl (wd hw (k := 94) rfl)) Via.refl F0 d15_1 rfl ?_
  intro T153 P153
  exact P153.retAN hlk hret rfl rfl rfl d15_4 (by decide) (by decide) ⟨rfl, rfl, rfl⟩
set_option maxRecDepth 65536 in
set_option maxHeartbeats 40000000 in
theorem c_ctx (l : Launch) (Z : State) (a0 : Array Value) (hw : ∀ d ∈ tables_1, d.before a0 Z = true) (x : Addr) (q : Addr) (h0 : Heap) (F0 : Fld Z h0 x "com/example/reticolo/reticolo/model/XdsError" "context" "Ljava/lang/String;" (.ref q)) : W.MetN l Z (⟨"com/example/reticolo/reticolo/model/XdsError", "context", "()Ljava/lang/String;"⟩ : MethodName) prog_21_method_6_code 1 ((Option.some (Jvm.ClassFile.FieldType.object "java/lang/String"))) [] ({ frames := 0, cells := 0, slots := 0, locals := 0 } : Room) #[.ref x]  h0 (W.Pure (some (.ref q)) h0) := by
  refine W.MetN.mk (ls0 := #[.val (.ref x)]) [] (plainFor_of_name pn_com_example_reticolo_reticolo_model_XdsError) (fun m => by first | (simp [entryFrame, mkF, argsToLocals, Value.category]; done) | rfl) ?_
  intro p e s m below meth c s₁ hml hret hnm hlk P0
  show W.Go p.tables e below _ (s₁.setTop (mkF m 0 #[.val (.ref x)] []))
  refine W.g_aloadN (pc1 := 1) P0.q d18_0 rfl rfl rfl ?_
  refine P0.getF (host := "") (pc1 := 4) (Or.inl (wd hw (k := 122) rfl)) Via.refl F0 d18_1 rfl ?_
  intro T154 P154
  exact P154.retAN hlk hret rfl rfl rfl d18_4 (by decide) (by decide) ⟨rfl, rfl, rfl⟩
set_option maxRecDepth 65536 in
set_option maxHeartbeats 40000000 in
theorem c_code (l : Launch) (Z : State) (a0 : Array Value) (hw : ∀ d ∈ tables_1, d.before a0 Z = true) (x : Addr) (q : Addr) (h0 : Heap) (F0 : Fld Z h0 x "com/example/reticolo/reticolo/model/XdsError" "code" "Lcom/example/reticolo/reticolo/model/XdsErrorCode;" (.ref q)) : W.MetN l Z (⟨"com/example/reticolo/reticolo/model/XdsError", "code", "()Lcom/example/reticolo/reticolo/model/XdsErrorCode;"⟩ : MethodName) prog_21_method_5_code 1 ((Option.some (Jvm.ClassFile.FieldType.object "com/example/reticolo/reticolo/model/XdsErrorCode"))) [] ({ frames := 0, cells := 0, slots := 0, locals := 0 } : Room) #[.ref x]  h0 (W.Pure (some (.ref q)) h0) := by
  refine W.MetN.mk (ls0 := #[.val (.ref x)]) [] (plainFor_of_name pn_com_example_reticolo_reticolo_model_XdsError) (fun m => by first | (simp [entryFrame, mkF, argsToLocals, Value.category]; done) | rfl) ?_
  intro p e s m below meth c s₁ hml hret hnm hlk P0
  show W.Go p.tables e below _ (s₁.setTop (mkF m 0 #[.val (.ref x)] []))
  refine W.g_aloadN (pc1 := 1) P0.q d19_0 rfl rfl rfl ?_
  refine P0.getF (host := "") (pc1 := 4) (Or.inl (wd hw (k := 120) rfl)) Via.refl F0 d19_1 rfl ?_
  intro T155 P155
  exact P155.retAN hlk hret rfl rfl rfl d19_4 (by decide) (by decide) ⟨rfl, rfl, rfl⟩
def QR (Z : State) (x co tx : Addr) (h0 : Heap) (v : Option Value) (h : Heap) (L : List Loc) : Prop := v = none ∧ W.Frw [x] h0.size L ∧ Keep h0 h [x] ∧ Exa Z h x "com/example/reticolo/reticolo/model/XdsError" ∧ Fld Z h x "com/example/reticolo/reticolo/model/XdsError" "code" "Lcom/example/reticolo/reticolo/model/XdsErrorCode;" (.ref co) ∧ Fld Z h x "com/example/reticolo/reticolo/model/XdsError" "context" "Ljava/lang/String;" (.ref tx)
abbrev rmR : Room := ({ frames := 2, cells := 0, slots := 0, locals := 30 } : Room)
set_option maxRecDepth 65536 in
set_option maxHeartbeats 40000000 in
theorem c_xr (l : Launch) (Z : State) (a0 : Array Value) (hw : ∀ d ∈ tables_1, d.before a0 Z = true) (x co tx : Addr) (h0 : Heap) (E0 : Exa Z h0 x "com/example/reticolo/reticolo/model/XdsError") (v1 v2 : Value) (F1 : Fld Z h0 x "com/example/reticolo/reticolo/model/XdsError" "code" "Lcom/example/reticolo/reticolo/model/XdsErrorCode;" v1) (F2 : Fld Z h0 x "com/example/reticolo/reticolo/model/XdsError" "context" "Ljava/lang/String;" v2) : W.MetN l Z (⟨"com/example/reticolo/reticolo/model/XdsError", "<init>", "(Lcom/example/reticolo/reticolo/model/XdsErrorCode;Ljava/lang/String;)V"⟩ : MethodName) prog_21_method_1_code 3 ((Option.none : Option Jvm.ClassFile.FieldType)) [] rmR #[.ref x, .ref co, .ref tx]  h0 (QR Z x co tx h0) := by
  refine W.MetN.mk (ls0 := #[.val (.ref x), .val (.ref co), .val (.ref tx)]) [x] (plainFor_of_name pn_com_example_reticolo_reticolo_model_XdsError) (fun m => by first | (simp [entryFrame, mkF, argsToLocals, Value.category]; done) | rfl) ?_
  intro p e s m below meth c s₁ hml hret hnm hlk P0
  show W.Go p.tables e below _ (s₁.setTop (mkF m 0 #[.val (.ref x), .val (.ref co), .val (.ref tx)] []))
  refine W.g_aloadN (pc1 := 1) P0.q d16_0 rfl rfl rfl ?_
  refine P0.callN (pc1 := 4) rfl (wd hw (k := 114) rfl) (wd hw (k := 115) rfl) (wd hw (k := 118) rfl) (by decide) (W.MetN.pay (W := 0) (rec0 l Z a0 hw x h0) P0 (wd hw (k := 118) rfl) (wd hw (k := 117) rfl) (by decide) (by decide)) (argsL := []) (st0 := []) (lenOf pd__R_V rfl) rfl rfl (Nat.le_of_eq rfl) (by rw [hml]; rfl) (by decide) (by decide) (W.Pure.ok P0.chv) d16_1 rfl ?_
  intro v156 T156 h156 L156 q156 P156
  obtain ⟨rfl, rfl, rfl⟩ := q156
  show W.Go p.tables e below _ (T156.setTop (mkF m 4 #[.val (.ref x), .val (.ref co), .val (.ref tx)] []))
  refine W.g_aloadN (pc1 := 5) P156.q d16_4 rfl rfl rfl ?_
  refine W.g_aloadN (pc1 := 6) P156.q d16_5 rfl rfl rfl ?_
  refine P156.putF (host := "") (pc1 := 9) (Or.inl (wd hw (k := 120) rfl)) Via.refl F1 E0 (Or.inr ⟨(wd hw (k := 121) rfl), rfl, hnm⟩) (wd hw (k := 103) rfl) (ty := (.object "com/example/reticolo/reticolo/model/XdsErrorCode")) (by decide) rfl rfl (Or.inl (List.mem_singleton.mpr rfl)) (Safe.exa P156.al E0 (by decide) (by decide)) d16_6 rfl ?_
  intro T157 h157 P157 W157
  have E1 := E0.wr W157
  have G1 := F1.same W157
  have G2 := F2.other W157 (Or.inr (slot_ne (t := (.object "java/lang/String")) (t' := (.object "com/example/reticolo/reticolo/model/XdsErrorCode")) (Or.inr (wd hw (k := 123) rfl)) (Or.inr (wd hw (k := 121) rfl)) (by decide) (by decide) (by decide)))
  refine W.g_aloadN (pc1 := 10) P157.q d16_9 rfl rfl rfl ?_
  refine W.g_aloadN (pc1 := 11) P157.q d16_10 rfl rfl rfl ?_
  refine P157.putF (host := "") (pc1 := 14) (Or.inl (wd hw (k := 122) rfl)) Via.refl G2 E1 (Or.inr ⟨(wd hw (k := 123) rfl), rfl, hnm⟩) (wd hw (k := 103) rfl) (ty := (.object "java/lang/String")) (by decide) rfl rfl (Or.inl (List.mem_singleton.mpr rfl)) (Safe.exa P157.al E1 (by decide) (by decide)) d16_11 rfl ?_
  intro T158 h158 P158 W158
  have G3 := G1.other W158 (Or.inr (slot_ne (t := (.object "com/example/reticolo/reticolo/model/XdsErrorCode")) (t' := (.object "java/lang/String")) (Or.inr (wd hw (k := 121) rfl)) (Or.inr (wd hw (k := 123) rfl)) (by decide) (by decide) (by decide)))
  exact P158.retN hlk hret d16_14 (by decide) (by decide) ⟨rfl, P158.fr, P158.keep, E1.wr W158, G3, G2.same W158⟩
def QE2 (Z : State) (co tx : Addr) (h0 : Heap) (v : Option Value) (h : Heap) (L : List Loc) : Prop := ∃ x, v = some (.ref x) ∧ W.Frw [] h0.size L ∧ Ext h0 h ∧ Exa Z h x "com/example/reticolo/reticolo/model/XdsError" ∧ Fld Z h x "com/example/reticolo/reticolo/model/XdsError" "code" "Lcom/example/reticolo/reticolo/model/XdsErrorCode;" (.ref co) ∧ Fld Z h x "com/example/reticolo/reticolo/model/XdsError" "context" "Ljava/lang/String;" (.ref tx)
abbrev rmEr : Room := ({ frames := 3, cells := 1, slots := 2, locals := 60 } : Room)
set_option maxRecDepth 65536 in
set_option maxHeartbeats 40000000 in
theorem c_err (l : Launch) (Z : State) (a0 : Array Value) (hw : ∀ d ∈ tables_1, d.before a0 Z = true) (x co tx : Addr) (h0 : Heap) (E0 : Exa Z h0 x "com/example/reticolo/reticolo/service/XdsException") (F1 : Fld Z h0 x "com/example/reticolo/reticolo/service/XdsException" "code" "Lcom/example/reticolo/reticolo/model/XdsErrorCode;" (.ref co)) (M1 : Fld Z h0 x "java/lang/Throwable" "detailMessage" "Ljava/lang/String;" (.ref tx)) : W.MetN l Z (⟨"com/example/reticolo/reticolo/service/XdsException", "error", "()Lcom/example/reticolo/reticolo/model/XdsError;"⟩ : MethodName) prog_24_method_3_code 1 ((Option.some (Jvm.ClassFile.FieldType.object "com/example/reticolo/reticolo/model/XdsError"))) [] rmEr #[.ref x]  h0 (QE2 Z co tx h0) := by
  refine W.MetN.mk (ls0 := #[.val (.ref x)]) [] (plainFor_of_name pn_com_example_reticolo_reticolo_service_XdsException) (fun m => by first | (simp [entryFrame, mkF, argsToLocals, Value.category]; done) | rfl) ?_
  intro p e s m below meth c s₁ hml hret hnm hlk P0
  show W.Go p.tables e below _ (s₁.setTop (mkF m 0 #[.val (.ref x)] []))
  refine P0.newO (pc1 := 3) (wd hw (k := 102) rfl) (wd hw (k := 103) rfl) (wd hw (k := 104) rfl) (by decide) (by decide) d14_0 rfl ?_
  intro T159 h159 x159 g159 P159 E159 A159 D159 U159
  refine W.g_dup (pc1 := 4) P159.q d14_3 rfl rfl ?_
  refine W.g_aloadN (pc1 := 5) P159.q d14_4 rfl rfl rfl ?_
  refine P159.getF (host := "") (pc1 := 8) (Or.inl (wd hw (k := 95) rfl)) Via.refl (F1.ext E159) d14_5 rfl ?_
  intro T160 P160
  refine W.g_aloadN (pc1 := 9) P160.q d14_8 rfl rfl rfl ?_
  refine P160.callVU (pc1 := 12) (owner := "java/lang/Throwable") (E0.ext E159) (wd hw (k := 105) rfl) (wd hw (k := 106) rfl) (wd hw (k := 107) rfl) (by decide) (wd hw (k := 109) rfl) (wd hw (k := 108) rfl) (W.MetN.pay (W := 3) (c_msg l Z a0 hw x tx h159 (M1.ext E159)) P160 (wd hw (k := 110) rfl) (wd hw (k := 56) rfl) (by decide) (by decide)) (argsL := []) (st0 := [(.ref co), (.ref x159), (.ref x159)]) (lenOf pd__R_Ljava_lang_String rfl) rfl rfl (Nat.le_of_eq rfl) (by rw [hml]; rfl) (by decide) (by decide) (W.Pure.ok P160.chv) d14_9 rfl ?_
  intro v161 T161 h161 L161 q161 P161
  obtain ⟨rfl, rfl, rfl⟩ := q161
  show W.Go p.tables e below _ (T161.setTop (mkF m 12 #[.val (.ref x)] [(.ref tx), (.ref co), (.ref x159), (.ref x159)]))
  have Ncode : Fld Z h159 x159 "com/example/reticolo/reticolo/model/XdsError" "code" "Lcom/example/reticolo/reticolo/model/XdsErrorCode;" .null := D159 (Or.inr (wd hw (k := 121) rfl)) (ty := (.object "com/example/reticolo/reticolo/model/XdsErrorCode")) (by decide)
  have Ncontext : Fld Z h159 x159 "com/example/reticolo/reticolo/model/XdsError" "context" "Ljava/lang/String;" .null := D159 (Or.inr (wd hw (k := 123) rfl)) (ty := (.object "java/lang/String")) (by decide)
  refine P161.callN (pc1 := 15) rfl (wd hw (k := 111) rfl) (wd hw (k := 112) rfl) (wd hw (k := 113) rfl) (by decide) (W.MetN.pay (W := 1) (c_xr l Z a0 hw x159 co tx h159 A159 _ _ Ncode Ncontext) P161 (wd hw (k := 113) rfl) (wd hw (k := 104) rfl) (by decide) (by decide)) (argsL := [(.ref co), (.ref tx)]) (st0 := [(.ref x159)]) (lenOf pd_Lcom_example_reticolo_reticolo_model_XdsErrorCodeLjava_lang_String_R_V rfl) rfl rfl (Nat.le_of_eq rfl) (by rw [hml]; rfl) (by decide) (by decide) (fun _ _ _ q => ⟨q.2.1.up P161.sz (allS (Or.inr (by rw [g159]; exact P0.sz)) all0), CHr.keep q.2.2.1 (sfS (Safe.exa P161.al A159 (by decide) (by decide)) sf0) P161.chv⟩) d14_12 rfl ?_
  intro v162 T162 h162 L162 q162 P162
  obtain ⟨rfl, f162, K162, A162, F162, G162⟩ := q162
  show W.Go p.tables e below _ (T162.setTop (mkF m 15 #[.val (.ref x)] [(.ref x159)]))
  exact P162.retAN hlk hret rfl rfl rfl d14_15 (by decide) (by decide) ⟨x159, rfl, P162.fr, P162.ext0, A162, F162, G162⟩
set_option maxRecDepth 65536 in
set_option maxHeartbeats 40000000 in
theorem c_eqSelf (l : Launch) (Z : State) (a0 : Array Value) (hw : ∀ d ∈ tables_1, d.before a0 Z = true) (x : Addr) (h0 : Heap) : W.MetN l Z (⟨"java/lang/String", "equals", "(Ljava/lang/Object;)Z"⟩ : MethodName) jdk_42_method_66_code 3 ((Option.some Jvm.ClassFile.FieldType.boolean)) [] ({ frames := 0, cells := 0, slots := 0, locals := 0 } : Room) #[.ref x, .ref x]  h0 (W.Pure (some (.int 1)) h0) := by
  refine W.MetN.mk (ls0 := #[.val (.ref x), .val (.ref x), .unset]) [] (plainFor_of_name pn_java_lang_String) (fun m => by first | (simp [entryFrame, mkF, argsToLocals, Value.category]; done) | rfl) ?_
  intro p e s m below meth c s₁ hml hret hnm hlk P0
  show W.Go p.tables e below _ (s₁.setTop (mkF m 0 #[.val (.ref x), .val (.ref x), .unset] []))
  refine W.g_aloadN (pc1 := 1) P0.q d20_0 rfl rfl rfl ?_
  refine W.g_aloadN (pc1 := 2) P0.q d20_1 rfl rfl rfl ?_
  refine W.g_acmpN (pc2 := 5) P0.q d20_2 rfl rfl rfl (by simp [Jvm.Free.XT.acmp]) ?_
  refine W.g_iconst (pc1 := 6) (v := (1 : Int32)) P0.q d20_5 (by decide) rfl ?_
  exact P0.retVN hlk hret (Or.inl rfl) d20_6 (by decide) (by decide) ⟨rfl, rfl, rfl⟩
def Q1 (n : Nat) (v : Option Value) (h : Heap) (L : List Loc) : Prop := v = some (.int 1) ∧ W.Frw [] n L
set_option maxRecDepth 65536 in
set_option maxHeartbeats 40000000 in
theorem rm1 (l : Launch) (Z : State) (a0 : Array Value) (hw : ∀ d ∈ tables_1, d.before a0 Z = true) (wS : ∀ a ∈ Bundle.stringAtoms, a.before a0 Z = true) (hEL : EW Z a0 ownEL) (i0 i1 i2 i3 i4 : Int32) (h0 : Heap) (EZ : Ext Z.heap h0) (zc : Int32) (hzc : ¬ zc = 0) (C0 : Sta Z Z.heap "java/lang/String" "COMPACT_STRINGS" "Z" (.int zc)) (htr : l.stackTraces = true) (u sv : Value) (hu : u.isRef = true) (hsv : sv.isRef = true) (SU : Sta Z Z.heap "java/lang/Throwable" "UNASSIGNED_STACK" "[Ljava/lang/StackTraceElement;" u) (SS : Sta Z Z.heap "java/lang/Throwable" "SUPPRESSED_SENTINEL" "Ljava/util/List;" sv) (cds : ∀ n ∈ ownCodes, ∃ a, Sta Z Z.heap "com/example/reticolo/reticolo/model/XdsErrorCode" n "Lcom/example/reticolo/reticolo/model/XdsErrorCode;" (.ref a)) : W.MetWK l Z ownEL x code maxLocals ret tables_1 room_1 #[.int i0, .int i1, .int i2, .int i3, .int i4] [] h0 (Q1 h0.size) := by
  refine W.MetWK.mk (ls0 := #[.val (.int i0), .val (.int i1), .val (.int i2), .val (.int i3), .val (.int i4), .unset, .unset, .unset, .unset, .unset, .unset, .unset]) [] (plainFor_of_name pn_com_example_reticolo_reticolo_service_XdsExceptionErrorPinLaw) (fun m => by first | (simp [entryFrame, mkF, argsToLocals, Value.category, maxLocals]; done) | rfl) ?_
  intro p e s m below meth c s₁ hml hret hnm hlk hTK hBel hss P0
  have hml : c.maxLocals = 12 := hml
  show W.Go p.tables e below _ (s₁.setTop (mkF m 0 #[.val (.int i0), .val (.int i1), .val (.int i2), .val (.int i3), .val (.int i4), .unset, .unset, .unset, .unset, .unset, .unset, .unset] []))
  refine W.g_iloadN (pc1 := 1) P0.q at_0 rfl rfl ?_
  refine P0.callS (pc1 := 4) (wd hw (k := 0) rfl) (wd hw (k := 1) rfl) (wd hw (k := 2) rfl) (wd hw (k := 3) rfl) (by decide) (W.MetN.pay (W := 0) (c_pick l Z a0 hw i0 h0 EZ cds) P0 (wd hw (k := 3) rfl) (wd hw (k := 2) rfl) (by decide) (by decide)) (argsL := [(.int i0)]) (st0 := []) (lenOf pd_I_R_Lcom_example_reticolo_reticolo_model_XdsErrorCode rfl) rfl rfl (Nat.le_of_eq rfl) (by rw [hml]; rfl) (by decide) (by decide) (fun _ _ _ q => by obtain ⟨_, _, rfl, rfl⟩ := q; exact ⟨W.Frw.nil, CHr.refl P0.chv⟩) at_1 rfl ?_
  intro v163 T163 h163 L163 q163 P163
  obtain ⟨co, rfl, rfl, rfl⟩ := q163
  show W.Go p.tables e below _ (T163.setTop (mkF m 4 #[.val (.int i0), .val (.int i1), .val (.int i2), .val (.int i3), .val (.int i4), .unset, .unset, .unset, .unset, .unset, .unset, .unset] [(.ref co)]))
  refine W.g_astore (pc1 := 6) (ls2 := #[.val (.int i0), .val (.int i1), .val (.int i2), .val (.int i3), .val (.int i4), .val (.ref co), .unset, .unset, .unset, .unset, .unset, .unset]) P163.q at_4 rfl rfl rfl ?_
  refine W.g_iloadN (pc1 := 7) P163.q at_6 rfl rfl ?_
  refine W.g_iloadN (pc1 := 8) P163.q at_7 rfl rfl ?_
  refine W.g_iloadN (pc1 := 9) P163.q at_8 rfl rfl ?_
  refine W.g_iload (pc1 := 11) P163.q at_9 rfl rfl ?_
  refine P163.callSW (pc1 := 14) (wd hw (k := 8) rfl) (wd hw (k := 9) rfl) (wd hw (k := 2) rfl) (wd hw (k := 10) rfl) (by decide) (W.MetW.pay (W := 0) (c_text l Z a0 hw wS hEL i1 i2 i3 i4 h0 EZ zc hzc C0) P163 hEL all0 (wd hw (k := 10) rfl) (wd hw (k := 2) rfl) (by decide) (by decide)) (argsL := [(.int i1), (.int i2), (.int i3), (.int i4)]) (st0 := []) (lenOf pd_IIII_R_Ljava_lang_String rfl) rfl rfl (Nat.le_of_eq rfl) (by rw [hml]; rfl) (by decide) (by decide) (fun _ _ _ q => by obtain ⟨_, _, q2, _⟩ := q; exact q2.up P163.sz all0) at_11 rfl ?_
  intro v164 T164 h164 L164 q164 P164 R164
  obtain ⟨tx, rfl, f164, E164, S164⟩ := q164
  show W.Go p.tables e below _ (T164.setTop (mkF m 14 #[.val (.int i0), .val (.int i1), .val (.int i2), .val (.int i3), .val (.int i4), .val (.ref co), .unset, .unset, .unset, .unset, .unset, .unset] [(.ref tx)]))
  refine W.g_astore (pc1 := 16) (ls2 := #[.val (.int i0), .val (.int i1), .val (.int i2), .val (.int i3), .val (.int i4), .val (.ref co), .val (.ref tx), .unset, .unset, .unset, .unset, .unset]) P164.q at_14 rfl rfl rfl ?_
  refine P164.newO (pc1 := 19) (wd hw (k := 41) rfl) (wd hw (k := 42) rfl) (wd hw (k := 43) rfl) (by decide) (by decide) at_16 rfl ?_
  intro T165 h165 x165 g165 P165 E165 A165 D165 U165
  refine W.g_dup (pc1 := 20) P165.q at_19 rfl rfl ?_
  refine W.g_aload (pc1 := 22) P165.q at_20 rfl rfl rfl ?_
  refine W.g_aload (pc1 := 24) P165.q at_22 rfl rfl rfl ?_
  have FR : own_Fresh Z h165 x165 := ⟨A165, U165, D165 (Or.inl (wd hw (k := 91) rfl)) (ty := (.object "java/lang/Object")) (by decide +kernel), D165 (Or.inl (wd hw (k := 92) rfl)) (ty := .int) (by decide +kernel), D165 (Or.inl (wd hw (k := 60) rfl)) (ty := (.object "java/lang/Throwable")) (by decide +kernel), D165 (Or.inl (wd hw (k := 63) rfl)) (ty := (.array (.object "java/lang/StackTraceElement"))) (by decide +kernel), D165 (Or.inl (wd hw (k := 66) rfl)) (ty := (.object "java/util/List")) (by decide +kernel), D165 (Or.inl (wd hw (k := 90) rfl)) (ty := (.object "java/lang/String")) (by decide +kernel), D165 (Or.inr (wd hw (k := 96) rfl)) (ty := (.object "com/example/reticolo/reticolo/model/XdsErrorCode")) (by decide +kernel)⟩
  refine P165.callN (pc1 := 27) rfl (wd hw (k := 44) rfl) (wd hw (k := 45) rfl) (wd hw (k := 46) rfl) (by decide) (W.MetNK.pay (W := 1) (c_xe l Z a0 hw htr u sv hu hsv x165 tx h165 (SU.ext (P165.extZ EZ all0)) (SS.ext (P165.extZ EZ all0)) FR co) P165 hTK hBel (wd hw (k := 46) rfl) (wd hw (k := 43) rfl) (by decide) (by decide)) (argsL := [(.ref co), (.ref tx)]) (st0 := [(.ref x165)]) (lenOf pd_Lcom_example_reticolo_reticolo_model_XdsErrorCodeLjava_lang_String_R_V rfl) rfl rfl (Nat.le_of_eq rfl) (by rw [hml]; rfl) (by decide) (by decide) (fun _ _ _ q => ⟨q.2.1.up P165.sz (allS (Or.inr (by rw [g165]; exact P164.sz)) all0), CHr.keep q.2.2.1 (sfS (Safe.exa P165.al A165 (by decide) (by decide)) sf0) P165.chv⟩) at_24 rfl ?_
  intro v166 T166 h166 L166 q166 P166
  obtain ⟨rfl, f166, K166, A166, F166, M166⟩ := q166
  show W.Go p.tables e below _ (T166.setTop (mkF m 27 #[.val (.int i0), .val (.int i1), .val (.int i2), .val (.int i3), .val (.int i4), .val (.ref co), .val (.ref tx), .unset, .unset, .unset, .unset, .unset] [(.ref x165)]))
  have Sk := (S164.ext E165).keepExa K166 A165 (wd hw (k := 42) rfl)
  refine W.g_astore (pc1 := 29) (ls2 := #[.val (.int i0), .val (.int i1), .val (.int i2), .val (.int i3), .val (.int i4), .val (.ref co), .val (.ref tx), .val (.ref x165), .unset, .unset, .unset, .unset]) P166.q at_27 rfl rfl rfl ?_
  refine W.g_aload (pc1 := 31) P166.q at_29 rfl rfl rfl ?_
  refine P166.callV (pc1 := 34) A166 (wd hw (k := 97) rfl) (wd hw (k := 98) rfl) (wd hw (k := 100) rfl) (wd hw (k := 99) rfl) (notFace_of_selects (args := #[]) (mvT P166.hz (wd hw (k := 100) rfl))) (by decide) (W.MetN.pay (W := 0) (c_err l Z a0 hw x165 co tx h166 A166 F166 M166) P166 (wd hw (k := 101) rfl) (wd hw (k := 43) rfl) (by decide) (by decide)) (argsL := []) (st0 := []) (lenOf pd__R_Lcom_example_reticolo_reticolo_model_XdsError rfl) rfl rfl (Nat.le_of_eq rfl) (by rw [hml]; rfl) (by decide) (by decide) (fun _ _ _ q => by obtain ⟨_, _, q2, q3, _⟩ := q; exact ⟨q2.up P166.sz all0, CHr.ext q3 P166.chv⟩) at_31 rfl ?_
  intro v167 T167 h167 L167 q167 P167
  obtain ⟨y167, rfl, f167, E167, A167, F167, G167⟩ := q167
  show W.Go p.tables e below _ (T167.setTop (mkF m 34 #[.val (.int i0), .val (.int i1), .val (.int i2), .val (.int i3), .val (.int i4), .val (.ref co), .val (.ref tx), .val (.ref x165), .unset, .unset, .unset, .unset] [(.ref y167)]))
  refine W.g_astore (pc1 := 36) (ls2 := #[.val (.int i0), .val (.int i1), .val (.int i2), .val (.int i3), .val (.int i4), .val (.ref co), .val (.ref tx), .val (.ref x165), .val (.ref y167), .unset, .unset, .unset]) P167.q at_34 rfl rfl rfl ?_
  refine W.g_aload (pc1 := 38) P167.q at_36 rfl rfl rfl ?_
  refine P167.callV (pc1 := 41) (A166.ext E167) (wd hw (k := 97) rfl) (wd hw (k := 98) rfl) (wd hw (k := 100) rfl) (wd hw (k := 99) rfl) (notFace_of_selects (args := #[]) (mvT P167.hz (wd hw (k := 100) rfl))) (by decide) (W.MetN.pay (W := 0) (c_err l Z a0 hw x165 co tx h167 (A166.ext E167) (F166.ext E167) (M166.ext E167)) P167 (wd hw (k := 101) rfl) (wd hw (k := 43) rfl) (by decide) (by decide)) (argsL := []) (st0 := []) (lenOf pd__R_Lcom_example_reticolo_reticolo_model_XdsError rfl) rfl rfl (Nat.le_of_eq rfl) (by rw [hml]; rfl) (by decide) (by decide) (fun _ _ _ q => by obtain ⟨_, _, q2, q3, _⟩ := q; exact ⟨q2.up P167.sz all0, CHr.ext q3 P167.chv⟩) at_38 rfl ?_
  intro v168 T168 h168 L168 q168 P168
  obtain ⟨y168, rfl, f168, E168, A168, F168, G168⟩ := q168
  show W.Go p.tables e below _ (T168.setTop (mkF m 41 #[.val (.int i0), .val (.int i1), .val (.int i2), .val (.int i3), .val (.int i4), .val (.ref co), .val (.ref tx), .val (.ref x165), .val (.ref y167), .unset, .unset, .unset] [(.ref y168)]))
  have A8 := A167.ext E168
  have F8 := F167.ext E168
  have G8 := G167.ext E168
  have S8 := (Sk.ext E167).ext E168
  refine W.g_astore (pc1 := 43) (ls2 := #[.val (.int i0), .val (.int i1), .val (.int i2), .val (.int i3), .val (.int i4), .val (.ref co), .val (.ref tx), .val (.ref x165), .val (.ref y167), .val (.ref y168), .unset, .unset]) P168.q at_41 rfl rfl rfl ?_
  refine W.g_aload (pc1 := 45) P168.q at_43 rfl rfl rfl ?_
  refine W.g_nullN (pc2 := 48) P168.q at_45 rfl ?_
  refine W.g_aload (pc1 := 50) P168.q at_48 rfl rfl rfl ?_
  refine W.g_nonY (pc1 := 55) P168.q at_50 (by decide) rfl ?_
  refine W.g_aload (pc1 := 57) P168.q at_55 rfl rfl rfl ?_
  refine P168.callV (pc1 := 60) A8 (wd hw (k := 124) rfl) (wd hw (k := 125) rfl) (wd hw (k := 127) rfl) (wd hw (k := 126) rfl) (notFace_of_selects (args := #[]) (mvT P168.hz (wd hw (k := 127) rfl))) (by decide) (W.MetN.pay (W := 0) (c_ctx l Z a0 hw y167 tx h168 G8) P168 (wd hw (k := 128) rfl) (wd hw (k := 104) rfl) (by decide) (by decide)) (argsL := []) (st0 := []) (lenOf pd__R_Ljava_lang_String rfl) rfl rfl (Nat.le_of_eq rfl) (by rw [hml]; rfl) (by decide) (by decide) (W.Pure.ok P168.chv) at_57 rfl ?_
  intro v169 T169 h169 L169 q169 P169
  obtain ⟨rfl, rfl, rfl⟩ := q169
  show W.Go p.tables e below _ (T169.setTop (mkF m 60 #[.val (.int i0), .val (.int i1), .val (.int i2), .val (.int i3), .val (.int i4), .val (.ref co), .val (.ref tx), .val (.ref x165), .val (.ref y167), .val (.ref y168), .unset, .unset] [(.ref tx)]))
  refine W.g_astore (pc1 := 62) (ls2 := #[.val (.int i0), .val (.int i1), .val (.int i2), .val (.int i3), .val (.int i4), .val (.ref co), .val (.ref tx), .val (.ref x165), .val (.ref y167), .val (.ref y168), .val (.ref tx), .unset]) P169.q at_60 rfl rfl rfl ?_
  refine W.g_aload (pc1 := 64) P169.q at_62 rfl rfl rfl ?_
  refine P169.callV (pc1 := 67) A168 (wd hw (k := 124) rfl) (wd hw (k := 125) rfl) (wd hw (k := 127) rfl) (wd hw (k := 126) rfl) (notFace_of_selects (args := #[]) (mvT P169.hz (wd hw (k := 127) rfl))) (by decide) (W.MetN.pay (W := 0) (c_ctx l Z a0 hw y168 tx h168 G168) P169 (wd hw (k := 128) rfl) (wd hw (k := 104) rfl) (by decide) (by decide)) (argsL := []) (st0 := []) (lenOf pd__R_Ljava_lang_String rfl) rfl rfl (Nat.le_of_eq rfl) (by rw [hml]; rfl) (by decide) (by decide) (W.Pure.ok P169.chv) at_64 rfl ?_
  intro v170 T170 h170 L170 q170 P170
  obtain ⟨rfl, rfl, rfl⟩ := q170
  show W.Go p.tables e below _ (T170.setTop (mkF m 67 #[.val (.int i0), .val (.int i1), .val (.int i2), .val (.int i3), .val (.int i4), .val (.ref co), .val (.ref tx), .val (.ref x165), .val (.ref y167), .val (.ref y168), .val (.ref tx), .unset] [(.ref tx)]))
  refine W.g_astore (pc1 := 69) (ls2 := #[.val (.int i0), .val (.int i1), .val (.int i2), .val (.int i3), .val (.int i4), .val (.ref co), .val (.ref tx), .val (.ref x165), .val (.ref y167), .val (.ref y168), .val (.ref tx), .val (.ref tx)]) P170.q at_67 rfl rfl rfl ?_
  refine W.g_aload (pc1 := 71) P170.q at_69 rfl rfl rfl ?_
  refine W.g_nullN (pc2 := 74) P170.q at_71 rfl ?_
  refine W.g_aload (pc1 := 76) P170.q at_74 rfl rfl rfl ?_
  refine W.g_nonY (pc1 := 81) P170.q at_76 (by decide) rfl ?_
  refine W.g_aload (pc1 := 83) P170.q at_81 rfl rfl rfl ?_
  refine P170.callV (pc1 := 86) A8 (wd hw (k := 129) rfl) (wd hw (k := 130) rfl) (wd hw (k := 132) rfl) (wd hw (k := 131) rfl) (notFace_of_selects (args := #[]) (mvT P170.hz (wd hw (k := 132) rfl))) (by decide) (W.MetN.pay (W := 0) (c_code l Z a0 hw y167 co h168 F8) P170 (wd hw (k := 133) rfl) (wd hw (k := 104) rfl) (by decide) (by decide)) (argsL := []) (st0 := []) (lenOf pd__R_Lcom_example_reticolo_reticolo_model_XdsErrorCode rfl) rfl rfl (Nat.le_of_eq rfl) (by rw [hml]; rfl) (by decide) (by decide) (W.Pure.ok P170.chv) at_83 rfl ?_
  intro v171 T171 h171 L171 q171 P171
  obtain ⟨rfl, rfl, rfl⟩ := q171
  show W.Go p.tables e below _ (T171.setTop (mkF m 86 #[.val (.int i0), .val (.int i1), .val (.int i2), .val (.int i3), .val (.int i4), .val (.ref co), .val (.ref tx), .val (.ref x165), .val (.ref y167), .val (.ref y168), .val (.ref tx), .val (.ref tx)] [(.ref co)]))
  refine W.g_aload (pc1 := 88) P171.q at_86 rfl rfl rfl ?_
  refine W.g_acmpN (pc2 := 91) P171.q at_88 rfl rfl rfl (by simp [Jvm.Free.XT.acmp]) ?_
  refine W.g_aload (pc1 := 93) P171.q at_91 rfl rfl rfl ?_
  refine P171.callV (pc1 := 96) A168 (wd hw (k := 129) rfl) (wd hw (k := 130) rfl) (wd hw (k := 132) rfl) (wd hw (k := 131) rfl) (notFace_of_selects (args := #[]) (mvT P171.hz (wd hw (k := 132) rfl))) (by decide) (W.MetN.pay (W := 0) (c_code l Z a0 hw y168 co h168 F168) P171 (wd hw (k := 133) rfl) (wd hw (k := 104) rfl) (by decide) (by decide)) (argsL := []) (st0 := []) (lenOf pd__R_Lcom_example_reticolo_reticolo_model_XdsErrorCode rfl) rfl rfl (Nat.le_of_eq rfl) (by rw [hml]; rfl) (by decide) (by decide) (W.Pure.ok P171.chv) at_93 rfl ?_
  intro v172 T172 h172 L172 q172 P172
  obtain ⟨rfl, rfl, rfl⟩ := q172
  show W.Go p.tables e below _ (T172.setTop (mkF m 96 #[.val (.int i0), .val (.int i1), .val (.int i2), .val (.int i3), .val (.int i4), .val (.ref co), .val (.ref tx), .val (.ref x165), .val (.ref y167), .val (.ref y168), .val (.ref tx), .val (.ref tx)] [(.ref co)]))
  refine W.g_aload (pc1 := 98) P172.q at_96 rfl rfl rfl ?_
  refine W.g_acmpN (pc2 := 101) P172.q at_98 rfl rfl rfl (by simp [Jvm.Free.XT.acmp]) ?_
  refine W.g_aload (pc1 := 103) P172.q at_101 rfl rfl rfl ?_
  refine W.g_aload (pc1 := 105) P172.q at_103 rfl rfl rfl ?_
  refine P172.callV (pc1 := 108) S8.exa (wd hw (k := 134) rfl) (wd hw (k := 135) rfl) (wd hw (k := 137) rfl) (wd hw (k := 136) rfl) (notFace_of_selects (args := #[]) (mvT P172.hz (wd hw (k := 137) rfl))) (by decide) (W.MetN.pay (W := 0) (c_eqSelf l Z a0 hw tx h168) P172 (wd hw (k := 138) rfl) (wd hw (k := 14) rfl) (by decide) (by decide)) (argsL := [(.ref tx)]) (st0 := []) (lenOf pd_Ljava_lang_Object_R_Z rfl) rfl rfl (Nat.le_of_eq rfl) (by rw [hml]; rfl) (by decide) (by decide) (W.Pure.ok P172.chv) at_105 rfl ?_
  intro v173 T173 h173 L173 q173 P173
  obtain ⟨rfl, rfl, rfl⟩ := q173
  show W.Go p.tables e below _ (T173.setTop (mkF m 108 #[.val (.int i0), .val (.int i1), .val (.int i2), .val (.int i3), .val (.int i4), .val (.ref co), .val (.ref tx), .val (.ref x165), .val (.ref y167), .val (.ref y168), .val (.ref tx), .val (.ref tx)] [(.int (1 : Int32))]))
  refine W.g_ifN (pc2 := 111) P173.q at_108 rfl (by decide) ?_
  refine W.g_aload (pc1 := 113) P173.q at_111 rfl rfl rfl ?_
  refine W.g_aload (pc1 := 115) P173.q at_113 rfl rfl rfl ?_
  refine P173.callV (pc1 := 118) S8.exa (wd hw (k := 134) rfl) (wd hw (k := 135) rfl) (wd hw (k := 137) rfl) (wd hw (k := 136) rfl) (notFace_of_selects (args := #[]) (mvT P173.hz (wd hw (k := 137) rfl))) (by decide) (W.MetN.pay (W := 0) (c_eqSelf l Z a0 hw tx h168) P173 (wd hw (k := 138) rfl) (wd hw (k := 14) rfl) (by decide) (by decide)) (argsL := [(.ref tx)]) (st0 := []) (lenOf pd_Ljava_lang_Object_R_Z rfl) rfl rfl (Nat.le_of_eq rfl) (by rw [hml]; rfl) (by decide) (by decide) (W.Pure.ok P173.chv) at_115 rfl ?_
  intro v174 T174 h174 L174 q174 P174
  obtain ⟨rfl, rfl, rfl⟩ := q174
  show W.Go p.tables e below _ (T174.setTop (mkF m 118 #[.val (.int i0), .val (.int i1), .val (.int i2), .val (.int i3), .val (.int i4), .val (.ref co), .val (.ref tx), .val (.ref x165), .val (.ref y167), .val (.ref y168), .val (.ref tx), .val (.ref tx)] [(.int (1 : Int32))]))
  refine W.g_ifN (pc2 := 121) P174.q at_118 rfl (by decide) ?_
  refine W.g_iconst (pc1 := 122) (v := (1 : Int32)) P174.q at_121 (by decide) rfl ?_
  refine W.g_goto (pc1 := 126) P174.q at_122 (by decide) rfl ?_
  exact P174.retVW hEL hlk hret (Or.inl rfl) at_126 (by decide) (by decide) ⟨rfl, P174.fr⟩
set_option maxRecDepth 65536 in
set_option maxHeartbeats 40000000 in
theorem comes_1 {Post : Tables → Env → Array Value → State → Outcome → State → Prop} (hpost : ∀ tb e args s v u, (limb_1_1.after args s (.returned v) u = true ∧ limb_1_2.after args s (.returned v) u = true ∧ True) → ReturnedEndW s (.returned v) u (Jvm.fieldLocs frame_1_writes args s ++ Jvm.arrayLocs frame_1_arrays args s ++ Jvm.staticLocs frame_1_statics s) 24 6656 → Post tb e args s (.returned v) u) :
    ArmFor flags0 classFile x code maxLocals ret World_1 tables_1 room_1 Calls_1 rest_1 Pre_1 Post := by
  intro l hfl _ _ p e ha hc hk s m args below hf hA hF happ hP
  obtain ⟨hcalls, hrest, hpre⟩ := hP
  obtain ⟨-, -, -, hnamed, -, -, -, hat⟩ := (Spec.applies_iff hf).mp happ
  obtain ⟨hg, hn⟩ := and_e (Cond.before_iff.mp (show (Jvm.Cond.and given_1 narrow_1).before args s = true from hpre))
  obtain ⟨hcnt, hg0⟩ := and_e hg
  obtain ⟨ga0, hg1⟩ := and_e hg0
  obtain ⟨ga1, hg2⟩ := and_e hg1
  obtain ⟨ga2, hg3⟩ := and_e hg2
  obtain ⟨ga3, hg4⟩ := and_e hg3
  have ga4 := hg4
  obtain ⟨w0, w1, w2, w3, w4, rfl⟩ : ∃ w0 w1 w2 w3 w4 : Value, args = #[w0, w1, w2, w3, w4] := by
    have hs : args.size = 5 := by simpa [Cond.value, given_1] using hcnt
    obtain ⟨L⟩ := args
    match L, hs with
    | [w0, w1, w2, w3, w4], _ => exact ⟨w0, w1, w2, w3, w4, rfl⟩
  have hw := fun d (hd : d ∈ tables_1) => atoms_spec (ws := Jvm.Cond.code x code maxLocals ret :: tables_1) hat d (List.mem_cons_of_mem _ hd)
  obtain ⟨hsets, hown0⟩ := atoms_of _ (rest_1_c_eq ▸ (show rest_1_c.before _ s = true from hrest))
  obtain ⟨i0, ei0⟩ := is_v ga0
  obtain rfl : w0 = (.int i0) := Option.some.inj ei0
  obtain ⟨i1, ei1⟩ := is_v ga1
  obtain rfl : w1 = (.int i1) := Option.some.inj ei1
  obtain ⟨i2, ei2⟩ := is_v ga2
  obtain rfl : w2 = (.int i2) := Option.some.inj ei2
  obtain ⟨i3, ei3⟩ := is_v ga3
  obtain rfl : w3 = (.int i3) := Option.some.inj ei3
  obtain ⟨i4, ei4⟩ := is_v ga4
  obtain rfl : w4 = (.int i4) := Option.some.inj ei4
  have n5 := not_v (Cond.before_iff.mp (hsets _ (List.mem_of_getElem? (i := 2) rfl)))
  obtain ⟨zc, ezc⟩ := is_v (Cond.before_iff.mp (hsets _ (List.mem_of_getElem? (i := 1) rfl)))
  have C0 : Sta s s.heap "java/lang/String" "COMPACT_STRINGS" "Z" (.int zc) := Sta.start ezc (Or.inl (hsets _ (List.mem_of_getElem? (i := 0) rfl)))
  have hzc : ¬ (zc = (0 : Int32)) := gotF (Cond.eq_ints ezc (Term.int_eval (0))) n5
  obtain ⟨u, eu, hu⟩ := isR_v (Cond.before_iff.mp (hsets _ (List.mem_of_getElem? (i := 16) rfl)))
  have SU := Sta.start eu (Or.inl (hsets _ (List.mem_of_getElem? (i := 15) rfl)))
  obtain ⟨sv, esv, hsv⟩ := isR_v (Cond.before_iff.mp (hsets _ (List.mem_of_getElem? (i := 21) rfl)))
  have SS := Sta.start esv (Or.inl (hsets _ (List.mem_of_getElem? (i := 20) rfl)))
  have hn0 := hn
  obtain ⟨nc0, hn1⟩ := and_e hn0
  obtain ⟨nc1, hn2⟩ := and_e hn1
  obtain ⟨nc2, hn3⟩ := and_e hn2
  obtain ⟨nc3, hn4⟩ := and_e hn3
  obtain ⟨nc4, hn5⟩ := and_e hn4
  obtain ⟨nc5, hn6⟩ := and_e hn5
  obtain ⟨nc6, hn7⟩ := and_e hn6
  obtain ⟨nc7, hn8⟩ := and_e hn7
  obtain ⟨nc8, hn9⟩ := and_e hn8
  obtain ⟨nc9, hn10⟩ := and_e hn9
  obtain ⟨nc10, hn11⟩ := and_e hn10
  obtain ⟨nc11, hn12⟩ := and_e hn11
  obtain ⟨nc12, hn13⟩ := and_e hn12
  have nc13 := hn13
  have cds : ∀ n ∈ ownCodes, ∃ a, Sta s s.heap "com/example/reticolo/reticolo/model/XdsErrorCode" n "Lcom/example/reticolo/reticolo/model/XdsErrorCode;" (.ref a) := fun n hm => by
    simp only [ownCodes, List.mem_cons, List.not_mem_nil, or_false] at hm
    rcases hm with rfl | rfl | rfl | rfl | rfl | rfl | rfl | rfl | rfl | rfl | rfl | rfl | rfl | rfl
    · obtain ⟨a, ea⟩ := exa_v nc0; exact ⟨a, Sta.start ea (Or.inr ⟨(wd hw (k := 6) rfl), (wd hw (k := 7) rfl)⟩)⟩
    · obtain ⟨a, ea⟩ := exa_v nc4; exact ⟨a, Sta.start ea (Or.inr ⟨(wd hw (k := 6) rfl), (wd hw (k := 149) rfl)⟩)⟩
    · obtain ⟨a, ea⟩ := exa_v nc9; exact ⟨a, Sta.start ea (Or.inr ⟨(wd hw (k := 6) rfl), (wd hw (k := 159) rfl)⟩)⟩
    · obtain ⟨a, ea⟩ := exa_v nc1; exact ⟨a, Sta.start ea (Or.inr ⟨(wd hw (k := 6) rfl), (wd hw (k := 140) rfl)⟩)⟩
    · obtain ⟨a, ea⟩ := exa_v nc12; exact ⟨a, Sta.start ea (Or.inr ⟨(wd hw (k := 6) rfl), (wd hw (k := 165) rfl)⟩)⟩
    · obtain ⟨a, ea⟩ := exa_v nc8; exact ⟨a, Sta.start ea (Or.inr ⟨(wd hw (k := 6) rfl), (wd hw (k := 157) rfl)⟩)⟩
    · obtain ⟨a, ea⟩ := exa_v nc6; exact ⟨a, Sta.start ea (Or.inr ⟨(wd hw (k := 6) rfl), (wd hw (k := 153) rfl)⟩)⟩
    · obtain ⟨a, ea⟩ := exa_v nc5; exact ⟨a, Sta.start ea (Or.inr ⟨(wd hw (k := 6) rfl), (wd hw (k := 151) rfl)⟩)⟩
    · obtain ⟨a, ea⟩ := exa_v nc7; exact ⟨a, Sta.start ea (Or.inr ⟨(wd hw (k := 6) rfl), (wd hw (k := 155) rfl)⟩)⟩
    · obtain ⟨a, ea⟩ := exa_v nc10; exact ⟨a, Sta.start ea (Or.inr ⟨(wd hw (k := 6) rfl), (wd hw (k := 161) rfl)⟩)⟩
    · obtain ⟨a, ea⟩ := exa_v nc3; exact ⟨a, Sta.start ea (Or.inr ⟨(wd hw (k := 6) rfl), (wd hw (k := 147) rfl)⟩)⟩
    · obtain ⟨a, ea⟩ := exa_v nc11; exact ⟨a, Sta.start ea (Or.inr ⟨(wd hw (k := 6) rfl), (wd hw (k := 163) rfl)⟩)⟩
    · obtain ⟨a, ea⟩ := exa_v nc2; exact ⟨a, Sta.start ea (Or.inr ⟨(wd hw (k := 6) rfl), (wd hw (k := 145) rfl)⟩)⟩
    · obtain ⟨a, ea⟩ := exa_v nc13; exact ⟨a, Sta.start ea (Or.inr ⟨(wd hw (k := 6) rfl), (wd hw (k := 167) rfl)⟩)⟩
  have wS : ∀ a ∈ Bundle.stringAtoms, a.before _ s = true := fun d hd => hw d (own_atoms d hd)
  have hEL : EW s _ ownEL := (EW.cons (own := "java/lang/String") (index := 7) (text := "") (wd hw (k := 141) rfl) (by decide) EW.nil)
  have hCH : CHv s ownEL s.vm s.heap := CHv.start hEL (fun p hp => hcalls.2.2.1 p (own_consts p hp)) (hsets _ (List.mem_of_getElem? (i := 2) rfl)) (wd hw (k := 30) rfl) (wd hw (k := 13) rfl)
  obtain ⟨n, o, h1, h2, h3, _, L, rfl, ⟨rfl, N⟩, -, hq⟩ := rm1 l s _ hw wS hEL i0 i1 i2 i3 i4 s.heap (W.Ext.refl _) zc hzc C0 (by unfold Launch.stackTraces; rw [hfl]; decide) u sv hu hsv SU SS cds p e ha hc hk s m _ below hf ((Spec.applies_iff_loose hf).mp happ).1 ⟨rfl, State.Warmed39.refl s, rfl, hCH, all0⟩ ⟨MethodsKnown_of_tablesKnown hcalls.2.1, FramesKnown_of_framesKnown hcalls.1 hf⟩
  refine ⟨n, _, h1, h2, h3, hpost _ _ _ _ _ _ ⟨Cond.after_iff.mpr rfl, Cond.after_iff.mpr (eq_i res_at (Term.int_eval (1)) rfl), trivial⟩ ⟨hq.1, hq.2.1, hq.2.2.1, (hq.2.2.2.sift fun y hy => Or.inr ((N y hy).elim (fun q => nomatch q) id)).mono (by decide) (by decide)⟩⟩
theorem main_1_1 : Claimed_1_1 := comes_1 fun _ _ _ _ _ _ h hF => ⟨h.1, hF⟩
theorem main_1_2 : Claimed_1_2 := comes_1 fun _ _ _ _ _ _ h hF => ⟨h.2.1, hF⟩
end Jvm.Pilot.@@N@@
namespace Jvm.Pilot.@@N@@
open Jvm Jvm.ClassFile Sem Op Lib Jvm.Free Jvm.Stand Jvm.Pilot.@@N@@.Jvm.D
/-! MADE BY PROGRAM (witnessworld.py) out of the Statement's table words and the real class files: 39 classes; the members and pool entries that the words name. The judged class is class 1, her method 3. -/
namespace start1
open Jvm.ClassFile
def u (s : String) : CpInfo := .utf8 (stringToUtf16 s)
/-- a pool by its gaps: so many unusable entries, then the entry; so many at the end -/
def gap : Nat → List CpInfo → List CpInfo
  | 0, r => r
  | n + 1, r => .unusable :: gap n r
def poolList (es : List (Nat × CpInfo)) (last : Nat) : List CpInfo := es.foldr (fun e r => gap e.1 (e.2 :: r)) (gap last [])
def pool (es : List (Nat × CpInfo)) (last : Nat) : Array CpInfo := ⟨poolList es last⟩
def fileOf (pool : Array CpInfo) (this : Nat) (attrs : Array Attribute := #[]) (ms : Array MethodInfo := #[]) (fl : Nat := 33) (sup : Nat := 0) (ifs : Array Nat := #[]) (fds : Array FieldInfo := #[]) : ClassFile where
  minorVersion := 0
  majorVersion := 65
  constantPool := pool
  accessFlags := fl
  thisClass := this
  superClass := sup
  interfaces := ifs
  fields := fds
  methods := ms
  attributes := attrs
def plain (name : String) (sup : Option ClassId) : Class where
  name := name
  kind := .ordinary
  loader := none
  accessFlags := 33
  super := sup
  interfaces := #[]
  cf := none
  fields := #[]
  methods := #[]
  instanceTypes := #[]
  staticTypes := #[]
  resolved := #[]
  callSites := []
  init := .initialized
  statics := none
  mirror := none

def pool0 : Array CpInfo := pool [(5, u "<init>"), (0, u "()V"), (1, .class_ 10), (1, u "java/lang/Object")] 113

def k0c0 : Code := { maxStack := 0, maxLocals := 1, code := object_method_1_code, exceptionTable := #[], attributes := #[] }
def k0m0 : Method := { name := "<init>", desc := "()V", sig := { parameters := [], returnType := none }, accessFlags := 1, code := some k0c0 }
/-- java/lang/Object -/
def k0 : Class := { plain "java/lang/Object" none with
  accessFlags := 33
  interfaces := #[]
  cf := some (fileOf pool0 8 #[] #[{ accessFlags := 1, nameIndex := 5, descriptorIndex := 6, attributes := #[] }] 33 0 #[] #[])
  fields := #[]
  methods := #[k0m0]
  instanceTypes := #[]
  staticTypes := #[]
  resolved := Array.replicate 124 none
  statics := none }

def pool1 : Array CpInfo := pool [(2, .class_ 4), (1, u "java/lang/Object"), (0, u "<init>"), (0, u "()V"), (0, .integer 2147483647), (0, .fieldref 9 10), (0, .class_ 11), (0, .nameAndType 12 13), (0, u "com/example/reticolo/reticolo/model/XdsErrorCode"), (0, u "MISSING_DOCUMENT"), (0, u "Lcom/example/reticolo/reticolo/model/XdsErrorCode;"), (0, .fieldref 9 15), (0, .nameAndType 16 13), (0, u "MISSING_DOCUMENT_METADATA"), (0, .fieldref 9 18), (0, .nameAndType 19 13), (0, u "NON_IDENTICAL_HASH"), (0, .fieldref 9 21), (0, .nameAndType 22 13), (0, u "REPOSITORY_METADATA_ERROR"), (0, .fieldref 9 24), (0, .nameAndType 25 13), (0, u "REGISTRY_METADATA_ERROR"), (0, .fieldref 9 27), (0, .nameAndType 28 13), (0, u "REPOSITORY_ERROR"), (0, .fieldref 9 30), (0, .nameAndType 31 13), (0, u "REGISTRY_ERROR"), (0, .fieldref 9 33), (0, .nameAndType 34 13), (0, u "UNKNOWN_STORED_QUERY"), (0, .fieldref 9 36), (0, .nameAndType 37 13), (0, u "STORED_QUERY_MISSING_PARAM"), (0, .fieldref 9 39), (0, .nameAndType 40 13), (0, u "STORED_QUERY_PARAM_NUMBER"), (0, .fieldref 9 42), (0, .nameAndType 43 13), (0, u "DOCUMENT_UNIQUE_ID_ERROR"), (0, .fieldref 9 45), (0, .nameAndType 46 13), (0, u "UNKNOWN_REPOSITORY_ID"), (0, .fieldref 9 48), (0, .nameAndType 49 13), (0, u "UNKNOWN_COMMUNITY"), (0, .fieldref 9 51), (0, .nameAndType 52 13), (0, u "UNAVAILABLE_COMMUNITY"), (0, .class_ 54), (0, u "java/lang/String"), (0, .methodref 53 56), (0, .nameAndType 5 57), (0, u "([C)V"), (0, .methodref 59 60), (0, .class_ 61), (0, .nameAndType 62 63), (0, u "com/example/reticolo/reticolo/service/XdsExceptionErrorPinLaw"), (0, u "pick"), (0, u "(I)Lcom/example/reticolo/reticolo/model/XdsErrorCode;"), (0, .methodref 59 65), (0, .nameAndType 66 67), (0, u "text"), (0, u "(IIII)Ljava/lang/String;"), (0, .class_ 69), (0, u "com/example/reticolo/reticolo/service/XdsException"), (0, .methodref 68 71), (0, .nameAndType 5 72), (0, u "(Lcom/example/reticolo/reticolo/model/XdsErrorCode;Ljava/lang/String;)V"), (0, .methodref 68 74), (0, .nameAndType 75 76), (0, u "error"), (0, u "()Lcom/example/reticolo/reticolo/model/XdsError;"), (0, .methodref 78 79), (0, .class_ 80), (0, .nameAndType 81 82), (0, u "com/example/reticolo/reticolo/model/XdsError"), (0, u "context"), (0, u "()Ljava/lang/String;"), (0, .methodref 78 84), (0, .nameAndType 85 86), (0, u "code"), (0, u "()Lcom/example/reticolo/reticolo/model/XdsErrorCode;"), (0, .methodref 53 88), (0, .nameAndType 89 90), (0, u "equals"), (0, u "(Ljava/lang/Object;)Z"), (3, u "law"), (0, u "(IIIII)Z")] 2

def k1m0 : Method := { name := "<init>", desc := "()V", sig := { parameters := [], returnType := none }, accessFlags := 1, code := none }
def k1c1 : Code := { maxStack := 2, maxLocals := 2, code := method_2_code, exceptionTable := #[], attributes := #[] }
def k1m1 : Method := { name := "pick", desc := "(I)Lcom/example/reticolo/reticolo/model/XdsErrorCode;", sig := { parameters := [.int], returnType := some (.object "com/example/reticolo/reticolo/model/XdsErrorCode") }, accessFlags := 10, code := some k1c1 }
def k1c2 : Code := { maxStack := 3, maxLocals := 9, code := method_3_code, exceptionTable := #[], attributes := #[] }
def k1m2 : Method := { name := "text", desc := "(IIII)Ljava/lang/String;", sig := { parameters := [.int, .int, .int, .int], returnType := some (.object "java/lang/String") }, accessFlags := 10, code := some k1c2 }
def k1c3 : Code := { maxStack := 4, maxLocals := 12, code := code, exceptionTable := #[], attributes := #[] }
def k1m3 : Method := { name := "law", desc := "(IIIII)Z", sig := { parameters := [.int, .int, .int, .int, .int], returnType := some .boolean }, accessFlags := 9, code := some k1c3 }
/-- com/example/reticolo/reticolo/service/XdsExceptionErrorPinLaw -/
def k1 : Class := { plain "com/example/reticolo/reticolo/service/XdsExceptionErrorPinLaw" (some 0) with
  accessFlags := 49
  interfaces := #[]
  cf := some (fileOf pool1 59 #[] #[{ accessFlags := 1, nameIndex := 5, descriptorIndex := 6, attributes := #[] }, { accessFlags := 10, nameIndex := 62, descriptorIndex := 63, attributes := #[] }, { accessFlags := 10, nameIndex := 66, descriptorIndex := 67, attributes := #[] }, { accessFlags := 9, nameIndex := 94, descriptorIndex := 95, attributes := #[] }] 49 2 #[] #[])
  fields := #[]
  methods := #[k1m0, k1m1, k1m2, k1m3]
  instanceTypes := #[]
  staticTypes := #[]
  resolved := Array.replicate 98 none
  statics := none }

def pool2 : Array CpInfo := pool [(1, .class_ 2), (0, u "java/lang/constant/Constable"), (0, .class_ 4), (0, u "java/lang/Object")] 6

/-- java/lang/constant/Constable -/
def k2 : Class := { plain "java/lang/constant/Constable" (some 0) with
  accessFlags := 1537
  interfaces := #[]
  cf := some (fileOf pool2 1 #[] #[] 1537 3 #[] #[])
  fields := #[]
  methods := #[]
  instanceTypes := #[]
  staticTypes := #[]
  resolved := Array.replicate 11 none
  statics := none }

def pool3 : Array CpInfo := pool [(1, .class_ 2), (0, u "java/lang/Comparable"), (0, .class_ 4), (0, u "java/lang/Object")] 7

/-- java/lang/Comparable -/
def k3 : Class := { plain "java/lang/Comparable" (some 0) with
  accessFlags := 1537
  interfaces := #[]
  cf := some (fileOf pool3 1 #[] #[] 1537 3 #[] #[])
  fields := #[]
  methods := #[]
  instanceTypes := #[]
  staticTypes := #[]
  resolved := Array.replicate 12 none
  statics := none }

def pool4 : Array CpInfo := pool [(1, .class_ 2), (0, u "java/io/Serializable"), (0, .class_ 4), (0, u "java/lang/Object")] 2

/-- java/io/Serializable -/
def k4 : Class := { plain "java/io/Serializable" (some 0) with
  accessFlags := 1537
  interfaces := #[]
  cf := some (fileOf pool4 1 #[] #[] 1537 3 #[] #[])
  fields := #[]
  methods := #[]
  instanceTypes := #[]
  staticTypes := #[]
  resolved := Array.replicate 7 none
  statics := none }

def pool5 : Array CpInfo := pool [(2, .class_ 4), (1, u "java/lang/Enum"), (0, u "name"), (0, u "Ljava/lang/String;"), (2, u "ordinal"), (0, u "I"), (1, .class_ 14), (1, u "java/lang/Object"), (4, u "hash"), (86, .class_ 108), (1, u "java/lang/Enum$EnumDesc"), (2, .class_ 112), (0, u "java/lang/constant/Constable"), (0, .class_ 114), (0, u "java/lang/Comparable"), (0, .class_ 116), (0, u "java/io/Serializable")] 87

/-- java/lang/Enum -/
def k5 : Class := { plain "java/lang/Enum" (some 0) with
  accessFlags := 1057
  interfaces := #[2, 3, 4]
  cf := some (fileOf pool5 2 #[.nestMembers #[106]] #[] 1057 12 #[111, 113, 115] #[{ accessFlags := 18, nameIndex := 5, descriptorIndex := 6, attributes := #[] }, { accessFlags := 18, nameIndex := 9, descriptorIndex := 10, attributes := #[] }, { accessFlags := 2, nameIndex := 19, descriptorIndex := 10, attributes := #[] }])
  fields := #[{ name := "name", type := (.object "java/lang/String"), accessFlags := 18, slot := 0, constantValue := 0 }, { name := "ordinal", type := .int, accessFlags := 18, slot := 1, constantValue := 0 }, { name := "hash", type := .int, accessFlags := 2, slot := 2, constantValue := 0 }]
  methods := #[]
  instanceTypes := #[(.object "java/lang/String"), .int, .int]
  staticTypes := #[]
  resolved := Array.replicate 204 none
  statics := none }

def pool6 : Array CpInfo := pool [(1, .class_ 2), (0, u "com/example/reticolo/reticolo/model/XdsErrorCode"), (2, u "MISSING_DOCUMENT"), (0, u "Lcom/example/reticolo/reticolo/model/XdsErrorCode;"), (2, u "MISSING_DOCUMENT_METADATA"), (2, u "NON_IDENTICAL_HASH"), (2, u "REPOSITORY_METADATA_ERROR"), (2, u "REGISTRY_METADATA_ERROR"), (2, u "REPOSITORY_ERROR"), (2, u "REGISTRY_ERROR"), (2, u "UNKNOWN_STORED_QUERY"), (2, u "STORED_QUERY_MISSING_PARAM"), (2, u "STORED_QUERY_PARAM_NUMBER"), (2, u "DOCUMENT_UNIQUE_ID_ERROR"), (2, u "UNKNOWN_REPOSITORY_ID"), (2, u "UNKNOWN_COMMUNITY"), (2, u "UNAVAILABLE_COMMUNITY"), (2, u "$VALUES"), (0, u "[Lcom/example/reticolo/reticolo/model/XdsErrorCode;"), (6, .class_ 58), (1, u "java/lang/Enum"), (8, u "code"), (0, u "Ljava/lang/String;")] 62

/-- com/example/reticolo/reticolo/model/XdsErrorCode -/
def k6 : Class := { plain "com/example/reticolo/reticolo/model/XdsErrorCode" (some 5) with
  accessFlags := 16433
  interfaces := #[]
  cf := some (fileOf pool6 1 #[] #[] 16433 56 #[] #[{ accessFlags := 16409, nameIndex := 5, descriptorIndex := 6, attributes := #[] }, { accessFlags := 16409, nameIndex := 9, descriptorIndex := 6, attributes := #[] }, { accessFlags := 16409, nameIndex := 12, descriptorIndex := 6, attributes := #[] }, { accessFlags := 16409, nameIndex := 15, descriptorIndex := 6, attributes := #[] }, { accessFlags := 16409, nameIndex := 18, descriptorIndex := 6, attributes := #[] }, { accessFlags := 16409, nameIndex := 21, descriptorIndex := 6, attributes := #[] }, { accessFlags := 16409, nameIndex := 24, descriptorIndex := 6, attributes := #[] }, { accessFlags := 16409, nameIndex := 27, descriptorIndex := 6, attributes := #[] }, { accessFlags := 16409, nameIndex := 30, descriptorIndex := 6, attributes := #[] }, { accessFlags := 16409, nameIndex := 33, descriptorIndex := 6, attributes := #[] }, { accessFlags := 16409, nameIndex := 36, descriptorIndex := 6, attributes := #[] }, { accessFlags := 16409, nameIndex := 39, descriptorIndex := 6, attributes := #[] }, { accessFlags := 16409, nameIndex := 42, descriptorIndex := 6, attributes := #[] }, { accessFlags := 16409, nameIndex := 45, descriptorIndex := 6, attributes := #[] }, { accessFlags := 18, nameIndex := 67, descriptorIndex := 68, attributes := #[] }, { accessFlags := 4122, nameIndex := 48, descriptorIndex := 49, attributes := #[] }])
  fields := #[{ name := "MISSING_DOCUMENT", type := (.object "com/example/reticolo/reticolo/model/XdsErrorCode"), accessFlags := 16409, slot := 0, constantValue := 0 }, { name := "MISSING_DOCUMENT_METADATA", type := (.object "com/example/reticolo/reticolo/model/XdsErrorCode"), accessFlags := 16409, slot := 1, constantValue := 0 }, { name := "NON_IDENTICAL_HASH", type := (.object "com/example/reticolo/reticolo/model/XdsErrorCode"), accessFlags := 16409, slot := 2, constantValue := 0 }, { name := "REPOSITORY_METADATA_ERROR", type := (.object "com/example/reticolo/reticolo/model/XdsErrorCode"), accessFlags := 16409, slot := 3, constantValue := 0 }, { name := "REGISTRY_METADATA_ERROR", type := (.object "com/example/reticolo/reticolo/model/XdsErrorCode"), accessFlags := 16409, slot := 4, constantValue := 0 }, { name := "REPOSITORY_ERROR", type := (.object "com/example/reticolo/reticolo/model/XdsErrorCode"), accessFlags := 16409, slot := 5, constantValue := 0 }, { name := "REGISTRY_ERROR", type := (.object "com/example/reticolo/reticolo/model/XdsErrorCode"), accessFlags := 16409, slot := 6, constantValue := 0 }, { name := "UNKNOWN_STORED_QUERY", type := (.object "com/example/reticolo/reticolo/model/XdsErrorCode"), accessFlags := 16409, slot := 7, constantValue := 0 }, { name := "STORED_QUERY_MISSING_PARAM", type := (.object "com/example/reticolo/reticolo/model/XdsErrorCode"), accessFlags := 16409, slot := 8, constantValue := 0 }, { name := "STORED_QUERY_PARAM_NUMBER", type := (.object "com/example/reticolo/reticolo/model/XdsErrorCode"), accessFlags := 16409, slot := 9, constantValue := 0 }, { name := "DOCUMENT_UNIQUE_ID_ERROR", type := (.object "com/example/reticolo/reticolo/model/XdsErrorCode"), accessFlags := 16409, slot := 10, constantValue := 0 }, { name := "UNKNOWN_REPOSITORY_ID", type := (.object "com/example/reticolo/reticolo/model/XdsErrorCode"), accessFlags := 16409, slot := 11, constantValue := 0 }, { name := "UNKNOWN_COMMUNITY", type := (.object "com/example/reticolo/reticolo/model/XdsErrorCode"), accessFlags := 16409, slot := 12, constantValue := 0 }, { name := "UNAVAILABLE_COMMUNITY", type := (.object "com/example/reticolo/reticolo/model/XdsErrorCode"), accessFlags := 16409, slot := 13, constantValue := 0 }, { name := "code", type := (.object "java/lang/String"), accessFlags := 18, slot := 3, constantValue := 0 }, { name := "$VALUES", type := (.array (.object "com/example/reticolo/reticolo/model/XdsErrorCode")), accessFlags := 4122, slot := 14, constantValue := 0 }]
  methods := #[]
  instanceTypes := #[(.object "java/lang/String"), .int, .int, (.object "java/lang/String")]
  staticTypes := #[(.object "com/example/reticolo/reticolo/model/XdsErrorCode"), (.object "com/example/reticolo/reticolo/model/XdsErrorCode"), (.object "com/example/reticolo/reticolo/model/XdsErrorCode"), (.object "com/example/reticolo/reticolo/model/XdsErrorCode"), (.object "com/example/reticolo/reticolo/model/XdsErrorCode"), (.object "com/example/reticolo/reticolo/model/XdsErrorCode"), (.object "com/example/reticolo/reticolo/model/XdsErrorCode"), (.object "com/example/reticolo/reticolo/model/XdsErrorCode"), (.object "com/example/reticolo/reticolo/model/XdsErrorCode"), (.object "com/example/reticolo/reticolo/model/XdsErrorCode"), (.object "com/example/reticolo/reticolo/model/XdsErrorCode"), (.object "com/example/reticolo/reticolo/model/XdsErrorCode"), (.object "com/example/reticolo/reticolo/model/XdsErrorCode"), (.object "com/example/reticolo/reticolo/model/XdsErrorCode"), (.array (.object "com/example/reticolo/reticolo/model/XdsErrorCode"))]
  resolved := Array.replicate 131 none
  statics := some 0 }

def pool7 : Array CpInfo := pool [(2, .class_ 4), (1, u "java/lang/CharSequence"), (42, .class_ 48), (0, u "java/lang/CharSequence$1CodePointIterator"), (10, .class_ 60), (0, u "java/lang/CharSequence$1CharIterator"), (5, .class_ 67), (0, u "java/lang/Object")] 63

/-- java/lang/CharSequence -/
def k7 : Class := { plain "java/lang/CharSequence" (some 0) with
  accessFlags := 1537
  interfaces := #[]
  cf := some (fileOf pool7 2 #[.nestMembers #[47, 59]] #[] 1537 66 #[] #[])
  fields := #[]
  methods := #[]
  instanceTypes := #[]
  staticTypes := #[]
  resolved := Array.replicate 131 none
  statics := none }

def pool8 : Array CpInfo := pool [(1, .class_ 2), (0, u "java/lang/constant/ConstantDesc"), (0, .class_ 4), (0, u "java/lang/Object")] 32

/-- java/lang/constant/ConstantDesc -/
def k8 : Class := { plain "java/lang/constant/ConstantDesc" (some 0) with
  accessFlags := 1537
  interfaces := #[]
  cf := some (fileOf pool8 1 #[] #[] 1537 3 #[] #[])
  fields := #[]
  methods := #[]
  instanceTypes := #[]
  staticTypes := #[]
  resolved := Array.replicate 37 none
  statics := none }

def pool9 : Array CpInfo := pool [(1, .methodref 2 3), (0, .class_ 4), (0, .nameAndType 5 6), (0, u "java/lang/Object"), (0, u "<init>"), (0, u "()V"), (0, .string 8), (0, u ""), (0, .fieldref 10 11), (0, .class_ 12), (0, .nameAndType 13 14), (0, u "java/lang/String"), (0, u "value"), (0, u "[B"), (0, .fieldref 10 16), (0, .nameAndType 17 18), (0, u "coder"), (0, u "B"), (2, u "hash"), (0, u "I"), (2, u "hashIsZero"), (0, u "Z"), (0, .methodref 10 28), (0, .nameAndType 5 29), (0, u "([CIILjava/lang/Void;)V"), (8, .fieldref 10 39), (0, .nameAndType 40 26), (0, u "COMPACT_STRINGS"), (1, .class_ 44), (1, u "java/lang/StringUTF16"), (0, u "compress"), (1, .methodref 42 48), (0, .nameAndType 49 50), (0, u "coderFromArrayLen"), (0, u "([BI)B"), (126, .methodref 42 178), (0, .nameAndType 45 179), (0, u "([CII)[B"), (363, u "equals"), (29, u "(Ljava/lang/Object;)Z"), (1, .class_ 576), (0, u "java/lang/CharSequence"), (22, u "CASE_INSENSITIVE_ORDER"), (0, u "Ljava/util/Comparator;"), (409, u "([C)V"), (90, u "serialPersistentFields"), (0, u "[Ljava/io/ObjectStreamField;"), (0, .class_ 1104), (0, u "java/lang/String$CaseInsensitiveComparator"), (1, .class_ 1107), (0, u "java/io/Serializable"), (0, .class_ 1109), (0, u "java/lang/Comparable"), (0, .class_ 1111), (0, u "java/lang/constant/Constable"), (0, .class_ 1113), (0, u "java/lang/constant/ConstantDesc"), (2, u "serialVersionUID"), (0, u "J"), (3, u "REPL"), (0, u "C"), (2, u "LATIN1"), (1, u "UTF16")] 323

def k9m0 : Method := { name := "<init>", desc := "()V", sig := { parameters := [], returnType := none }, accessFlags := 1, code := none }
def k9c1 : Code := { maxStack := 5, maxLocals := 2, code := jdk_42_method_3_code, exceptionTable := #[], attributes := #[] }
def k9m1 : Method := { name := "<init>", desc := "([C)V", sig := { parameters := [(.array .char)], returnType := none }, accessFlags := 1, code := some k9c1 }
def k9c2 : Code := { maxStack := 2, maxLocals := 3, code := jdk_42_method_66_code, exceptionTable := #[], attributes := #[] }
def k9m2 : Method := { name := "equals", desc := "(Ljava/lang/Object;)Z", sig := { parameters := [(.object "java/lang/Object")], returnType := some .boolean }, accessFlags := 1, code := some k9c2 }
def k9c3 : Code := { maxStack := 4, maxLocals := 6, code := jdk_42_method_149_code, exceptionTable := #[], attributes := #[] }
def k9m3 : Method := { name := "<init>", desc := "([CIILjava/lang/Void;)V", sig := { parameters := [(.array .char), .int, .int, (.object "java/lang/Void")], returnType := none }, accessFlags := 2, code := some k9c3 }
/-- java/lang/String -/
def k9 : Class := { plain "java/lang/String" (some 0) with
  accessFlags := 49
  interfaces := #[4, 3, 7, 2, 8]
  cf := some (fileOf pool9 10 #[.nestMembers #[1103]] #[{ accessFlags := 1, nameIndex := 5, descriptorIndex := 6, attributes := #[] }, { accessFlags := 1, nameIndex := 5, descriptorIndex := 1010, attributes := #[] }, { accessFlags := 1, nameIndex := 543, descriptorIndex := 573, attributes := #[] }, { accessFlags := 2, nameIndex := 5, descriptorIndex := 29, attributes := #[] }] 49 2 #[1106, 1108, 575, 1110, 1112] #[{ accessFlags := 18, nameIndex := 13, descriptorIndex := 14, attributes := #[] }, { accessFlags := 18, nameIndex := 17, descriptorIndex := 18, attributes := #[] }, { accessFlags := 2, nameIndex := 21, descriptorIndex := 22, attributes := #[] }, { accessFlags := 2, nameIndex := 25, descriptorIndex := 26, attributes := #[] }, { accessFlags := 26, nameIndex := 1116, descriptorIndex := 1117, attributes := #[] }, { accessFlags := 24, nameIndex := 40, descriptorIndex := 26, attributes := #[] }, { accessFlags := 26, nameIndex := 1101, descriptorIndex := 1102, attributes := #[] }, { accessFlags := 26, nameIndex := 1121, descriptorIndex := 1122, attributes := #[] }, { accessFlags := 25, nameIndex := 599, descriptorIndex := 600, attributes := #[] }, { accessFlags := 24, nameIndex := 1125, descriptorIndex := 18, attributes := #[] }, { accessFlags := 24, nameIndex := 1127, descriptorIndex := 18, attributes := #[] }])
  fields := #[{ name := "value", type := (.array .byte), accessFlags := 18, slot := 0, constantValue := 0 }, { name := "coder", type := .byte, accessFlags := 18, slot := 1, constantValue := 0 }, { name := "hash", type := .int, accessFlags := 2, slot := 2, constantValue := 0 }, { name := "hashIsZero", type := .boolean, accessFlags := 2, slot := 3, constantValue := 0 }, { name := "serialVersionUID", type := .long, accessFlags := 26, slot := 0, constantValue := 0 }, { name := "COMPACT_STRINGS", type := .boolean, accessFlags := 24, slot := 1, constantValue := 0 }, { name := "serialPersistentFields", type := (.array (.object "java/io/ObjectStreamField")), accessFlags := 26, slot := 2, constantValue := 0 }, { name := "REPL", type := .char, accessFlags := 26, slot := 3, constantValue := 0 }, { name := "CASE_INSENSITIVE_ORDER", type := (.object "java/util/Comparator"), accessFlags := 25, slot := 4, constantValue := 0 }, { name := "LATIN1", type := .byte, accessFlags := 24, slot := 5, constantValue := 0 }, { name := "UTF16", type := .byte, accessFlags := 24, slot := 6, constantValue := 0 }]
  methods := #[k9m0, k9m1, k9m2, k9m3]
  instanceTypes := #[(.array .byte), .byte, .int, .boolean]
  staticTypes := #[.long, .boolean, (.array (.object "java/io/ObjectStreamField")), .char, (.object "java/util/Comparator"), .byte, .byte]
  resolved := Array.replicate 1451 none
  statics := some 1 }

def pool10 : Array CpInfo := pool [(6, .class_ 8), (1, u "java/lang/Object"), (0, u "<init>"), (0, u "()V"), (1, .class_ 14), (1, u "java/lang/StringUTF16"), (31, u "$assertionsDisabled"), (0, u "Z"), (13, u "HI_BYTE_SHIFT"), (0, u "I"), (2, u "LO_BYTE_SHIFT"), (49, .methodref 12 116), (0, .nameAndType 117 118), (0, u "compress"), (0, u "([CI[BII)I"), (3, u "([CII)[B"), (138, u "coderFromArrayLen"), (0, u "([BI)B"), (106, .class_ 371), (1, u "java/lang/StringUTF16$LinesSpliterator"), (58, u "MAX_LENGTH"), (196, .class_ 628), (0, u "java/lang/StringUTF16$CodePointsSpliterator"), (0, .class_ 630), (0, u "java/lang/StringUTF16$CharsSpliterator")] 4

def k10m0 : Method := { name := "<init>", desc := "()V", sig := { parameters := [], returnType := none }, accessFlags := 0, code := none }
def k10c1 : Code := { maxStack := 2, maxLocals := 2, code := jdk_52_method_15_code, exceptionTable := #[], attributes := #[] }
def k10m1 : Method := { name := "coderFromArrayLen", desc := "([BI)B", sig := { parameters := [(.array .byte), .int], returnType := some .byte }, accessFlags := 8, code := some k10c1 }
def k10c2 : Code := { maxStack := 5, maxLocals := 6, code := jdk_52_method_16_code, exceptionTable := #[], attributes := #[] }
def k10m2 : Method := { name := "compress", desc := "([CII)[B", sig := { parameters := [(.array .char), .int, .int], returnType := some (.array .byte) }, accessFlags := 9, code := some k10c2 }
def k10c3 : Code := { maxStack := 3, maxLocals := 7, code := jdk_52_method_21_code, exceptionTable := #[], attributes := #[] }
def k10m3 : Method := { name := "compress", desc := "([CI[BII)I", sig := { parameters := [(.array .char), .int, (.array .byte), .int, .int], returnType := some .int }, accessFlags := 9, code := some k10c3 }
/-- java/lang/StringUTF16 -/
def k10 : Class := { plain "java/lang/StringUTF16" (some 0) with
  accessFlags := 48
  interfaces := #[]
  cf := some (fileOf pool10 12 #[.nestMembers #[627, 629, 369]] #[{ accessFlags := 0, nameIndex := 9, descriptorIndex := 10, attributes := #[] }, { accessFlags := 8, nameIndex := 261, descriptorIndex := 262, attributes := #[] }, { accessFlags := 9, nameIndex := 117, descriptorIndex := 122, attributes := #[] }, { accessFlags := 9, nameIndex := 117, descriptorIndex := 118, attributes := #[] }] 48 6 #[] #[{ accessFlags := 26, nameIndex := 61, descriptorIndex := 62, attributes := #[] }, { accessFlags := 26, nameIndex := 65, descriptorIndex := 62, attributes := #[] }, { accessFlags := 24, nameIndex := 430, descriptorIndex := 62, attributes := #[] }, { accessFlags := 4120, nameIndex := 46, descriptorIndex := 47, attributes := #[] }])
  fields := #[{ name := "HI_BYTE_SHIFT", type := .int, accessFlags := 26, slot := 0, constantValue := 0 }, { name := "LO_BYTE_SHIFT", type := .int, accessFlags := 26, slot := 1, constantValue := 0 }, { name := "MAX_LENGTH", type := .int, accessFlags := 24, slot := 2, constantValue := 0 }, { name := "$assertionsDisabled", type := .boolean, accessFlags := 4120, slot := 3, constantValue := 0 }]
  methods := #[k10m0, k10m1, k10m2, k10m3]
  instanceTypes := #[]
  staticTypes := #[.int, .int, .int, .boolean]
  resolved := Array.replicate 635 none
  statics := none }

def pool11 : Array CpInfo := pool [(1, .methodref 2 3), (0, .class_ 4), (0, .nameAndType 5 6), (0, u "java/lang/Object"), (0, u "<init>"), (0, u "()V"), (0, .fieldref 8 9), (0, .class_ 10), (0, .nameAndType 11 12), (0, u "java/lang/Throwable"), (0, u "cause"), (0, u "Ljava/lang/Throwable;"), (0, .fieldref 8 14), (0, .nameAndType 15 16), (0, u "UNASSIGNED_STACK"), (0, u "[Ljava/lang/StackTraceElement;"), (0, .fieldref 8 18), (0, .nameAndType 19 16), (0, u "stackTrace"), (0, .fieldref 8 21), (0, .nameAndType 22 23), (0, u "SUPPRESSED_SENTINEL"), (0, u "Ljava/util/List;"), (0, .fieldref 8 25), (0, .nameAndType 26 23), (0, u "suppressedExceptions"), (0, .methodref 8 28), (0, .nameAndType 29 30), (0, u "fillInStackTrace"), (0, u "()Ljava/lang/Throwable;"), (0, .fieldref 8 32), (0, .nameAndType 33 34), (0, u "detailMessage"), (0, u "Ljava/lang/String;"), (3, u "()Ljava/lang/String;"), (2, u "getMessage"), (51, .class_ 94), (0, u "java/lang/Throwable$WrappedPrintStream"), (6, .class_ 103), (1, u "java/lang/Throwable$PrintStreamOrWriter"), (61, u "$assertionsDisabled"), (0, u "Z"), (26, .class_ 194), (0, u "java/lang/Throwable$WrappedPrintWriter"), (3, .fieldref 8 199), (0, .nameAndType 200 201), (0, u "backtrace"), (0, u "Ljava/lang/Object;"), (0, .methodref 8 203), (0, .nameAndType 29 204), (0, u "(I)Ljava/lang/Throwable;"), (6, u "depth"), (0, u "I"), (10, u "(Ljava/lang/String;)V"), (45, .class_ 271), (1, u "java/lang/Throwable$SentinelHolder"), (32, u "EMPTY_THROWABLE_ARRAY"), (0, u "[Ljava/lang/Throwable;"), (12, .class_ 319), (0, u "java/io/Serializable"), (0, u "serialVersionUID"), (0, u "J"), (5, u "NULL_CAUSE_MESSAGE"), (0, u "SELF_SUPPRESSION_MESSAGE"), (0, u "CAUSE_CAPTION"), (0, u "SUPPRESSED_CAPTION")] 73

def k11c0 : Code := { maxStack := 2, maxLocals := 1, code := jdk_78_method_1_code, exceptionTable := #[], attributes := #[] }
def k11m0 : Method := { name := "<init>", desc := "()V", sig := { parameters := [], returnType := none }, accessFlags := 1, code := some k11c0 }
def k11c1 : Code := { maxStack := 2, maxLocals := 2, code := jdk_78_method_2_code, exceptionTable := #[], attributes := #[] }
def k11m1 : Method := { name := "<init>", desc := "(Ljava/lang/String;)V", sig := { parameters := [(.object "java/lang/String")], returnType := none }, accessFlags := 1, code := some k11c1 }
def k11c2 : Code := { maxStack := 1, maxLocals := 1, code := jdk_78_method_6_code, exceptionTable := #[], attributes := #[] }
def k11m2 : Method := { name := "getMessage", desc := "()Ljava/lang/String;", sig := { parameters := [], returnType := some (.object "java/lang/String") }, accessFlags := 1, code := some k11c2 }
def k11c3 : Code := { maxStack := 2, maxLocals := 1, code := ⟨#[0x2a, 0xb4, 0x00, 0x11, 0xc7, 0x00, 0x0a, 0x2a, 0xb4, 0x00, 0xc6, 0xc6, 0x00, 0x10, 0x2a, 0x03, 0xb6, 0x00, 0xca, 0x57, 0x2a, 0xb2, 0x00, 0x0d, 0xb5, 0x00, 0x11, 0x2a, 0xb0]⟩, exceptionTable := #[], attributes := #[] }
def k11m3 : Method := { name := "fillInStackTrace", desc := "()Ljava/lang/Throwable;", sig := { parameters := [], returnType := some (.object "java/lang/Throwable") }, accessFlags := 33, code := some k11c3 }
def k11m4 : Method := { name := "fillInStackTrace", desc := "(I)Ljava/lang/Throwable;", sig := { parameters := [.int], returnType := some (.object "java/lang/Throwable") }, accessFlags := 258, code := none }
/-- java/lang/Throwable -/
def k11 : Class := { plain "java/lang/Throwable" (some 0) with
  accessFlags := 33
  interfaces := #[4]
  cf := some (fileOf pool11 8 #[.nestMembers #[193, 93, 101, 269]] #[{ accessFlags := 1, nameIndex := 5, descriptorIndex := 6, attributes := #[] }, { accessFlags := 1, nameIndex := 5, descriptorIndex := 223, attributes := #[] }, { accessFlags := 1, nameIndex := 41, descriptorIndex := 38, attributes := #[] }, { accessFlags := 33, nameIndex := 29, descriptorIndex := 30, attributes := #[] }, { accessFlags := 258, nameIndex := 29, descriptorIndex := 204, attributes := #[] }] 33 2 #[318] #[{ accessFlags := 26, nameIndex := 320, descriptorIndex := 321, attributes := #[] }, { accessFlags := 130, nameIndex := 200, descriptorIndex := 201, attributes := #[] }, { accessFlags := 2, nameIndex := 33, descriptorIndex := 34, attributes := #[] }, { accessFlags := 26, nameIndex := 15, descriptorIndex := 16, attributes := #[] }, { accessFlags := 2, nameIndex := 11, descriptorIndex := 12, attributes := #[] }, { accessFlags := 2, nameIndex := 19, descriptorIndex := 16, attributes := #[] }, { accessFlags := 130, nameIndex := 211, descriptorIndex := 212, attributes := #[] }, { accessFlags := 26, nameIndex := 22, descriptorIndex := 23, attributes := #[] }, { accessFlags := 2, nameIndex := 26, descriptorIndex := 23, attributes := #[] }, { accessFlags := 26, nameIndex := 327, descriptorIndex := 34, attributes := #[] }, { accessFlags := 26, nameIndex := 328, descriptorIndex := 34, attributes := #[] }, { accessFlags := 26, nameIndex := 329, descriptorIndex := 34, attributes := #[] }, { accessFlags := 26, nameIndex := 330, descriptorIndex := 34, attributes := #[] }, { accessFlags := 26, nameIndex := 304, descriptorIndex := 305, attributes := #[] }, { accessFlags := 4120, nameIndex := 165, descriptorIndex := 166, attributes := #[] }])
  fields := #[{ name := "serialVersionUID", type := .long, accessFlags := 26, slot := 0, constantValue := 0 }, { name := "backtrace", type := (.object "java/lang/Object"), accessFlags := 130, slot := 0, constantValue := 0 }, { name := "detailMessage", type := (.object "java/lang/String"), accessFlags := 2, slot := 1, constantValue := 0 }, { name := "UNASSIGNED_STACK", type := (.array (.object "java/lang/StackTraceElement")), accessFlags := 26, slot := 1, constantValue := 0 }, { name := "cause", type := (.object "java/lang/Throwable"), accessFlags := 2, slot := 2, constantValue := 0 }, { name := "stackTrace", type := (.array (.object "java/lang/StackTraceElement")), accessFlags := 2, slot := 3, constantValue := 0 }, { name := "depth", type := .int, accessFlags := 130, slot := 4, constantValue := 0 }, { name := "SUPPRESSED_SENTINEL", type := (.object "java/util/List"), accessFlags := 26, slot := 2, constantValue := 0 }, { name := "suppressedExceptions", type := (.object "java/util/List"), accessFlags := 2, slot := 5, constantValue := 0 }, { name := "NULL_CAUSE_MESSAGE", type := (.object "java/lang/String"), accessFlags := 26, slot := 3, constantValue := 0 }, { name := "SELF_SUPPRESSION_MESSAGE", type := (.object "java/lang/String"), accessFlags := 26, slot := 4, constantValue := 0 }, { name := "CAUSE_CAPTION", type := (.object "java/lang/String"), accessFlags := 26, slot := 5, constantValue := 0 }, { name := "SUPPRESSED_CAPTION", type := (.object "java/lang/String"), accessFlags := 26, slot := 6, constantValue := 0 }, { name := "EMPTY_THROWABLE_ARRAY", type := (.array (.object "java/lang/Throwable")), accessFlags := 26, slot := 7, constantValue := 0 }, { name := "$assertionsDisabled", type := .boolean, accessFlags := 4120, slot := 8, constantValue := 0 }]
  methods := #[k11m0, k11m1, k11m2, k11m3, k11m4]
  instanceTypes := #[(.object "java/lang/Object"), (.object "java/lang/String"), (.object "java/lang/Throwable"), (.array (.object "java/lang/StackTraceElement")), .int, (.object "java/util/List")]
  staticTypes := #[.long, (.array (.object "java/lang/StackTraceElement")), (.object "java/util/List"), (.object "java/lang/String"), (.object "java/lang/String"), (.object "java/lang/String"), (.object "java/lang/String"), (.array (.object "java/lang/Throwable")), .boolean]
  resolved := Array.replicate 404 none
  statics := some 2 }

def pool12 : Array CpInfo := pool [(2, .class_ 4), (1, u "java/lang/Throwable"), (0, u "<init>"), (0, u "()V"), (0, .methodref 2 8), (0, .nameAndType 5 9), (0, u "(Ljava/lang/String;)V"), (9, .class_ 20), (0, u "java/lang/Exception"), (0, u "serialVersionUID"), (0, u "J")] 17

def k12m0 : Method := { name := "<init>", desc := "()V", sig := { parameters := [], returnType := none }, accessFlags := 1, code := none }
def k12c1 : Code := { maxStack := 2, maxLocals := 2, code := jdk_59_method_2_code, exceptionTable := #[], attributes := #[] }
def k12m1 : Method := { name := "<init>", desc := "(Ljava/lang/String;)V", sig := { parameters := [(.object "java/lang/String")], returnType := none }, accessFlags := 1, code := some k12c1 }
/-- java/lang/Exception -/
def k12 : Class := { plain "java/lang/Exception" (some 11) with
  accessFlags := 33
  interfaces := #[]
  cf := some (fileOf pool12 19 #[] #[{ accessFlags := 1, nameIndex := 5, descriptorIndex := 6, attributes := #[] }, { accessFlags := 1, nameIndex := 5, descriptorIndex := 9, attributes := #[] }] 33 2 #[] #[{ accessFlags := 24, nameIndex := 21, descriptorIndex := 22, attributes := #[] }])
  fields := #[{ name := "serialVersionUID", type := .long, accessFlags := 24, slot := 0, constantValue := 0 }]
  methods := #[k12m0, k12m1]
  instanceTypes := #[(.object "java/lang/Object"), (.object "java/lang/String"), (.object "java/lang/Throwable"), (.array (.object "java/lang/StackTraceElement")), .int, (.object "java/util/List")]
  staticTypes := #[.long]
  resolved := Array.replicate 40 none
  statics := none }

def pool13 : Array CpInfo := pool [(1, .methodref 2 3), (0, .class_ 4), (0, .nameAndType 5 6), (0, u "java/lang/Exception"), (0, u "<init>"), (0, u "(Ljava/lang/String;)V"), (0, .fieldref 8 9), (0, .class_ 10), (0, .nameAndType 11 12), (0, u "com/example/reticolo/reticolo/service/XdsException"), (0, u "code"), (0, u "Lcom/example/reticolo/reticolo/model/XdsErrorCode;"), (3, .class_ 17), (0, u "com/example/reticolo/reticolo/model/XdsError"), (0, .methodref 8 19), (0, .nameAndType 20 21), (0, u "getMessage"), (0, u "()Ljava/lang/String;"), (0, .methodref 16 23), (0, .nameAndType 5 24), (0, u "(Lcom/example/reticolo/reticolo/model/XdsErrorCode;Ljava/lang/String;)V"), (0, u "serialVersionUID"), (0, u "J"), (6, u "error"), (0, u "()Lcom/example/reticolo/reticolo/model/XdsError;")] 2

def k13c0 : Code := { maxStack := 2, maxLocals := 3, code := prog_24_method_1_code, exceptionTable := #[], attributes := #[] }
def k13m0 : Method := { name := "<init>", desc := "(Lcom/example/reticolo/reticolo/model/XdsErrorCode;Ljava/lang/String;)V", sig := { parameters := [(.object "com/example/reticolo/reticolo/model/XdsErrorCode"), (.object "java/lang/String")], returnType := none }, accessFlags := 1, code := some k13c0 }
def k13c1 : Code := { maxStack := 4, maxLocals := 1, code := prog_24_method_3_code, exceptionTable := #[], attributes := #[] }
def k13m1 : Method := { name := "error", desc := "()Lcom/example/reticolo/reticolo/model/XdsError;", sig := { parameters := [], returnType := some (.object "com/example/reticolo/reticolo/model/XdsError") }, accessFlags := 1, code := some k13c1 }
/-- com/example/reticolo/reticolo/service/XdsException -/
def k13 : Class := { plain "com/example/reticolo/reticolo/service/XdsException" (some 12) with
  accessFlags := 49
  interfaces := #[]
  cf := some (fileOf pool13 8 #[] #[{ accessFlags := 1, nameIndex := 5, descriptorIndex := 24, attributes := #[] }, { accessFlags := 1, nameIndex := 33, descriptorIndex := 34, attributes := #[] }] 49 2 #[] #[{ accessFlags := 26, nameIndex := 25, descriptorIndex := 26, attributes := #[] }, { accessFlags := 18, nameIndex := 11, descriptorIndex := 12, attributes := #[] }])
  fields := #[{ name := "serialVersionUID", type := .long, accessFlags := 26, slot := 0, constantValue := 0 }, { name := "code", type := (.object "com/example/reticolo/reticolo/model/XdsErrorCode"), accessFlags := 18, slot := 6, constantValue := 0 }]
  methods := #[k13m0, k13m1]
  instanceTypes := #[(.object "java/lang/Object"), (.object "java/lang/String"), (.object "java/lang/Throwable"), (.array (.object "java/lang/StackTraceElement")), .int, (.object "java/util/List"), (.object "com/example/reticolo/reticolo/model/XdsErrorCode")]
  staticTypes := #[.long]
  resolved := Array.replicate 37 none
  statics := none }

def pool14 : Array CpInfo := pool [(1, .methodref 2 3), (0, .class_ 4), (0, .nameAndType 5 6), (0, u "java/lang/Object"), (0, u "<init>"), (0, u "()V"), (0, .class_ 8), (0, u "java/lang/Record")] 13

def k14c0 : Code := { maxStack := 1, maxLocals := 1, code := jdk_30_method_1_code, exceptionTable := #[], attributes := #[] }
def k14m0 : Method := { name := "<init>", desc := "()V", sig := { parameters := [], returnType := none }, accessFlags := 4, code := some k14c0 }
/-- java/lang/Record -/
def k14 : Class := { plain "java/lang/Record" (some 0) with
  accessFlags := 1057
  interfaces := #[]
  cf := some (fileOf pool14 7 #[] #[{ accessFlags := 4, nameIndex := 5, descriptorIndex := 6, attributes := #[] }] 1057 2 #[] #[])
  fields := #[]
  methods := #[k14m0]
  instanceTypes := #[]
  staticTypes := #[]
  resolved := Array.replicate 22 none
  statics := none }

def pool15 : Array CpInfo := pool [(1, .methodref 2 3), (0, .class_ 4), (0, .nameAndType 5 6), (0, u "java/lang/Record"), (0, u "<init>"), (0, u "()V"), (0, .fieldref 8 9), (0, .class_ 10), (0, .nameAndType 11 12), (0, u "com/example/reticolo/reticolo/model/XdsError"), (0, u "code"), (0, u "Lcom/example/reticolo/reticolo/model/XdsErrorCode;"), (0, .fieldref 8 14), (0, .nameAndType 15 16), (0, u "context"), (0, u "Ljava/lang/String;"), (12, u "(Lcom/example/reticolo/reticolo/model/XdsErrorCode;Ljava/lang/String;)V"), (3, u "()Ljava/lang/String;"), (2, u "()Lcom/example/reticolo/reticolo/model/XdsErrorCode;")] 21

def k15c0 : Code := { maxStack := 2, maxLocals := 3, code := prog_21_method_1_code, exceptionTable := #[], attributes := #[] }
def k15m0 : Method := { name := "<init>", desc := "(Lcom/example/reticolo/reticolo/model/XdsErrorCode;Ljava/lang/String;)V", sig := { parameters := [(.object "com/example/reticolo/reticolo/model/XdsErrorCode"), (.object "java/lang/String")], returnType := none }, accessFlags := 1, code := some k15c0 }
def k15c1 : Code := { maxStack := 1, maxLocals := 1, code := prog_21_method_5_code, exceptionTable := #[], attributes := #[] }
def k15m1 : Method := { name := "code", desc := "()Lcom/example/reticolo/reticolo/model/XdsErrorCode;", sig := { parameters := [], returnType := some (.object "com/example/reticolo/reticolo/model/XdsErrorCode") }, accessFlags := 1, code := some k15c1 }
def k15c2 : Code := { maxStack := 1, maxLocals := 1, code := prog_21_method_6_code, exceptionTable := #[], attributes := #[] }
def k15m2 : Method := { name := "context", desc := "()Ljava/lang/String;", sig := { parameters := [], returnType := some (.object "java/lang/String") }, accessFlags := 1, code := some k15c2 }
/-- com/example/reticolo/reticolo/model/XdsError -/
def k15 : Class := { plain "com/example/reticolo/reticolo/model/XdsError" (some 14) with
  accessFlags := 49
  interfaces := #[]
  cf := some (fileOf pool15 8 #[] #[{ accessFlags := 1, nameIndex := 5, descriptorIndex := 29, attributes := #[] }, { accessFlags := 1, nameIndex := 11, descriptorIndex := 36, attributes := #[] }, { accessFlags := 1, nameIndex := 15, descriptorIndex := 33, attributes := #[] }] 49 2 #[] #[{ accessFlags := 18, nameIndex := 11, descriptorIndex := 12, attributes := #[] }, { accessFlags := 18, nameIndex := 15, descriptorIndex := 16, attributes := #[] }])
  fields := #[{ name := "code", type := (.object "com/example/reticolo/reticolo/model/XdsErrorCode"), accessFlags := 18, slot := 0, constantValue := 0 }, { name := "context", type := (.object "java/lang/String"), accessFlags := 18, slot := 1, constantValue := 0 }]
  methods := #[k15m0, k15m1, k15m2]
  instanceTypes := #[(.object "com/example/reticolo/reticolo/model/XdsErrorCode"), (.object "java/lang/String")]
  staticTypes := #[]
  resolved := Array.replicate 58 none
  statics := none }

def pool16 : Array CpInfo := pool [(4, .class_ 6), (1, u "java/lang/Object"), (0, u "<init>"), (0, u "()V"), (5, .class_ 16), (1, u "java/lang/StringLatin1"), (104, u "$assertionsDisabled"), (0, u "Z"), (98, .class_ 223), (1, u "java/lang/StringLatin1$LinesSpliterator"), (166, .class_ 391), (0, u "java/lang/StringLatin1$CharsSpliterator")] 3

def k16m0 : Method := { name := "<init>", desc := "()V", sig := { parameters := [], returnType := none }, accessFlags := 0, code := none }
/-- java/lang/StringLatin1 -/
def k16 : Class := { plain "java/lang/StringLatin1" (some 0) with
  accessFlags := 48
  interfaces := #[]
  cf := some (fileOf pool16 14 #[.nestMembers #[390, 221]] #[{ accessFlags := 0, nameIndex := 7, descriptorIndex := 8, attributes := #[] }] 48 4 #[] #[{ accessFlags := 4120, nameIndex := 121, descriptorIndex := 122, attributes := #[] }])
  fields := #[{ name := "$assertionsDisabled", type := .boolean, accessFlags := 4120, slot := 0, constantValue := 0 }]
  methods := #[k16m0]
  instanceTypes := #[]
  staticTypes := #[.boolean]
  resolved := Array.replicate 395 none
  statics := none }

def pool17 : Array CpInfo := pool [(2, .class_ 4), (1, u "java/lang/Object"), (0, u "<init>"), (0, u "()V"), (17, .class_ 26), (1, u "jdk/internal/util/Preconditions"), (28, .class_ 56), (0, u "jdk/internal/util/Preconditions$4"), (57, .class_ 115), (0, u "jdk/internal/util/Preconditions$1"), (7, u "SIOOBE_FORMATTER"), (0, u "Ljava/util/function/BiFunction;"), (0, .class_ 126), (0, u "jdk/internal/util/Preconditions$2"), (3, u "AIOOBE_FORMATTER"), (0, .class_ 132), (0, u "jdk/internal/util/Preconditions$3"), (3, u "IOOBE_FORMATTER")] 57

def k17m0 : Method := { name := "<init>", desc := "()V", sig := { parameters := [], returnType := none }, accessFlags := 1, code := none }
/-- jdk/internal/util/Preconditions -/
def k17 : Class := { plain "jdk/internal/util/Preconditions" (some 0) with
  accessFlags := 33
  interfaces := #[]
  cf := some (fileOf pool17 24 #[.nestMembers #[55, 131, 125, 114]] #[{ accessFlags := 1, nameIndex := 5, descriptorIndex := 6, attributes := #[] }] 33 2 #[] #[{ accessFlags := 25, nameIndex := 123, descriptorIndex := 124, attributes := #[] }, { accessFlags := 25, nameIndex := 130, descriptorIndex := 124, attributes := #[] }, { accessFlags := 25, nameIndex := 136, descriptorIndex := 124, attributes := #[] }])
  fields := #[{ name := "SIOOBE_FORMATTER", type := (.object "java/util/function/BiFunction"), accessFlags := 25, slot := 0, constantValue := 0 }, { name := "AIOOBE_FORMATTER", type := (.object "java/util/function/BiFunction"), accessFlags := 25, slot := 1, constantValue := 0 }, { name := "IOOBE_FORMATTER", type := (.object "java/util/function/BiFunction"), accessFlags := 25, slot := 2, constantValue := 0 }]
  methods := #[k17m0]
  instanceTypes := #[]
  staticTypes := #[(.object "java/util/function/BiFunction"), (.object "java/util/function/BiFunction"), (.object "java/util/function/BiFunction")]
  resolved := Array.replicate 194 none
  statics := some 3 }

def pool18 : Array CpInfo := pool [(9, u "<init>"), (6, .class_ 18), (1, u "java/lang/Object"), (0, u "()V"), (1, .class_ 23), (1, u "jdk/internal/util/ArraysSupport"), (0, u "LOG2_ARRAY_LONG_INDEX_SCALE"), (0, u "I"), (2, u "U"), (0, u "Ljdk/internal/misc/Unsafe;"), (8, u "BIG_ENDIAN"), (0, u "Z"), (8, u "LOG2_BYTE_BIT_SIZE"), (4, u "LOG2_ARRAY_INT_INDEX_SCALE"), (54, u "JLA"), (0, u "Ljdk/internal/access/JavaLangAccess;"), (11, u "LOG2_ARRAY_BOOLEAN_INDEX_SCALE"), (9, u "LOG2_ARRAY_BYTE_INDEX_SCALE"), (5, u "LOG2_ARRAY_CHAR_INDEX_SCALE"), (5, u "LOG2_ARRAY_SHORT_INDEX_SCALE"), (18, u "LOG2_ARRAY_FLOAT_INDEX_SCALE"), (24, u "LOG2_ARRAY_DOUBLE_INDEX_SCALE"), (89, u "T_BOOLEAN"), (2, u "T_CHAR"), (1, u "T_FLOAT"), (1, u "T_DOUBLE"), (1, u "T_BYTE"), (1, u "T_SHORT"), (1, u "T_INT"), (1, u "T_LONG"), (1, u "SOFT_MAX_ARRAY_LENGTH")] 83

def k18m0 : Method := { name := "<init>", desc := "()V", sig := { parameters := [], returnType := none }, accessFlags := 2, code := none }
/-- jdk/internal/util/ArraysSupport -/
def k18 : Class := { plain "jdk/internal/util/ArraysSupport" (some 0) with
  accessFlags := 33
  interfaces := #[]
  cf := some (fileOf pool18 21 #[] #[{ accessFlags := 2, nameIndex := 9, descriptorIndex := 19, attributes := #[] }] 33 16 #[] #[{ accessFlags := 24, nameIndex := 28, descriptorIndex := 29, attributes := #[] }, { accessFlags := 26, nameIndex := 38, descriptorIndex := 39, attributes := #[] }, { accessFlags := 25, nameIndex := 121, descriptorIndex := 25, attributes := #[] }, { accessFlags := 25, nameIndex := 131, descriptorIndex := 25, attributes := #[] }, { accessFlags := 25, nameIndex := 137, descriptorIndex := 25, attributes := #[] }, { accessFlags := 25, nameIndex := 143, descriptorIndex := 25, attributes := #[] }, { accessFlags := 25, nameIndex := 53, descriptorIndex := 25, attributes := #[] }, { accessFlags := 25, nameIndex := 24, descriptorIndex := 25, attributes := #[] }, { accessFlags := 25, nameIndex := 162, descriptorIndex := 25, attributes := #[] }, { accessFlags := 25, nameIndex := 187, descriptorIndex := 25, attributes := #[] }, { accessFlags := 26, nameIndex := 48, descriptorIndex := 25, attributes := #[] }, { accessFlags := 25, nameIndex := 277, descriptorIndex := 25, attributes := #[] }, { accessFlags := 25, nameIndex := 280, descriptorIndex := 25, attributes := #[] }, { accessFlags := 25, nameIndex := 282, descriptorIndex := 25, attributes := #[] }, { accessFlags := 25, nameIndex := 284, descriptorIndex := 25, attributes := #[] }, { accessFlags := 25, nameIndex := 286, descriptorIndex := 25, attributes := #[] }, { accessFlags := 25, nameIndex := 288, descriptorIndex := 25, attributes := #[] }, { accessFlags := 25, nameIndex := 290, descriptorIndex := 25, attributes := #[] }, { accessFlags := 25, nameIndex := 292, descriptorIndex := 25, attributes := #[] }, { accessFlags := 26, nameIndex := 108, descriptorIndex := 109, attributes := #[] }, { accessFlags := 25, nameIndex := 294, descriptorIndex := 25, attributes := #[] }])
  fields := #[{ name := "U", type := (.object "jdk/internal/misc/Unsafe"), accessFlags := 24, slot := 0, constantValue := 0 }, { name := "BIG_ENDIAN", type := .boolean, accessFlags := 26, slot := 1, constantValue := 0 }, { name := "LOG2_ARRAY_BOOLEAN_INDEX_SCALE", type := .int, accessFlags := 25, slot := 2, constantValue := 0 }, { name := "LOG2_ARRAY_BYTE_INDEX_SCALE", type := .int, accessFlags := 25, slot := 3, constantValue := 0 }, { name := "LOG2_ARRAY_CHAR_INDEX_SCALE", type := .int, accessFlags := 25, slot := 4, constantValue := 0 }, { name := "LOG2_ARRAY_SHORT_INDEX_SCALE", type := .int, accessFlags := 25, slot := 5, constantValue := 0 }, { name := "LOG2_ARRAY_INT_INDEX_SCALE", type := .int, accessFlags := 25, slot := 6, constantValue := 0 }, { name := "LOG2_ARRAY_LONG_INDEX_SCALE", type := .int, accessFlags := 25, slot := 7, constantValue := 0 }, { name := "LOG2_ARRAY_FLOAT_INDEX_SCALE", type := .int, accessFlags := 25, slot := 8, constantValue := 0 }, { name := "LOG2_ARRAY_DOUBLE_INDEX_SCALE", type := .int, accessFlags := 25, slot := 9, constantValue := 0 }, { name := "LOG2_BYTE_BIT_SIZE", type := .int, accessFlags := 26, slot := 10, constantValue := 0 }, { name := "T_BOOLEAN", type := .int, accessFlags := 25, slot := 11, constantValue := 0 }, { name := "T_CHAR", type := .int, accessFlags := 25, slot := 12, constantValue := 0 }, { name := "T_FLOAT", type := .int, accessFlags := 25, slot := 13, constantValue := 0 }, { name := "T_DOUBLE", type := .int, accessFlags := 25, slot := 14, constantValue := 0 }, { name := "T_BYTE", type := .int, accessFlags := 25, slot := 15, constantValue := 0 }, { name := "T_SHORT", type := .int, accessFlags := 25, slot := 16, constantValue := 0 }, { name := "T_INT", type := .int, accessFlags := 25, slot := 17, constantValue := 0 }, { name := "T_LONG", type := .int, accessFlags := 25, slot := 18, constantValue := 0 }, { name := "JLA", type := (.object "jdk/internal/access/JavaLangAccess"), accessFlags := 26, slot := 19, constantValue := 0 }, { name := "SOFT_MAX_ARRAY_LENGTH", type := .int, accessFlags := 25, slot := 20, constantValue := 0 }]
  methods := #[k18m0]
  instanceTypes := #[]
  staticTypes := #[(.object "jdk/internal/misc/Unsafe"), .boolean, .int, .int, .int, .int, .int, .int, .int, .int, .int, .int, .int, .int, .int, .int, .int, .int, .int, (.object "jdk/internal/access/JavaLangAccess"), .int]
  resolved := Array.replicate 378 none
  statics := none }

def pool19 : Array CpInfo := pool [(2, .class_ 4), (1, u "java/lang/Object"), (0, u "<init>"), (0, u "()V"), (12, .class_ 20), (0, u "java/util/Collections"), (63, u "r"), (0, u "Ljava/util/Random;"), (80, .class_ 167), (0, u "java/util/Collections$UnmodifiableCollection"), (6, .class_ 175), (0, u "java/util/Collections$UnmodifiableSequencedCollection"), (6, .class_ 183), (0, u "java/util/Collections$UnmodifiableSet"), (6, .class_ 191), (0, u "java/util/Collections$UnmodifiableSequencedSet"), (6, .class_ 199), (0, u "java/util/Collections$UnmodifiableSortedSet"), (6, .class_ 207), (0, u "java/util/Collections$UnmodifiableNavigableSet"), (4, .class_ 213), (0, u "java/util/Collections$UnmodifiableList"), (1, .class_ 216), (0, u "java/util/Collections$UnmodifiableRandomAccessList"), (6, .class_ 224), (0, u "java/util/Collections$UnmodifiableMap"), (6, .class_ 232), (0, u "java/util/Collections$UnmodifiableSequencedMap"), (4, .class_ 238), (0, u "java/util/Collections$UnmodifiableSortedMap"), (6, .class_ 246), (0, u "java/util/Collections$UnmodifiableNavigableMap"), (3, .class_ 251), (0, u "java/util/Collections$SynchronizedCollection"), (4, .class_ 257), (0, u "java/util/Collections$SynchronizedSet"), (4, .class_ 263), (0, u "java/util/Collections$SynchronizedSortedSet"), (1, .class_ 266), (0, u "java/util/Collections$SynchronizedNavigableSet"), (1, .class_ 269), (0, u "java/util/Collections$SynchronizedRandomAccessList"), (1, .class_ 272), (0, u "java/util/Collections$SynchronizedList"), (5, .class_ 279), (0, u "java/util/Collections$SynchronizedMap"), (1, .class_ 282), (0, u "java/util/Collections$SynchronizedSortedMap"), (1, .class_ 285), (0, u "java/util/Collections$SynchronizedNavigableMap"), (1, .class_ 288), (0, u "java/util/Collections$CheckedCollection"), (11, .class_ 301), (0, u "java/util/Collections$CheckedQueue"), (3, .class_ 306), (0, u "java/util/Collections$CheckedSet"), (3, .class_ 311), (0, u "java/util/Collections$CheckedSortedSet"), (3, .class_ 316), (0, u "java/util/Collections$CheckedNavigableSet"), (3, .class_ 321), (0, u "java/util/Collections$CheckedRandomAccessList"), (3, .class_ 326), (0, u "java/util/Collections$CheckedList"), (1, .class_ 329), (0, u "java/util/Collections$CheckedMap"), (3, .class_ 334), (0, u "java/util/Collections$CheckedSortedMap"), (3, .class_ 339), (0, u "java/util/Collections$CheckedNavigableMap"), (4, .class_ 346), (1, u "java/util/Collections$EmptyIterator"), (3, .class_ 352), (1, u "java/util/Collections$EmptyListIterator"), (2, .class_ 357), (1, u "java/util/Collections$EmptyEnumeration"), (4, u "EMPTY_SET"), (0, u "Ljava/util/Set;"), (6, u "EMPTY_LIST"), (0, u "Ljava/util/List;"), (2, u "EMPTY_MAP"), (0, u "Ljava/util/Map;"), (4, .class_ 381), (0, u "java/util/Collections$SingletonSet"), (2, .class_ 385), (0, u "java/util/Collections$1"), (1, .class_ 388), (0, u "java/util/Collections$2"), (1, .class_ 391), (0, u "java/util/Collections$SingletonList"), (1, .class_ 394), (0, u "java/util/Collections$SingletonMap"), (22, .class_ 418), (0, u "java/util/Collections$CopiesList"), (4, .class_ 425), (1, u "java/util/Collections$ReverseComparator"), (8, .class_ 435), (0, u "java/util/Collections$ReverseComparator2"), (6, .class_ 443), (0, u "java/util/Collections$3"), (25, .class_ 470), (0, u "java/util/Collections$SetFromMap"), (2, .class_ 474), (0, u "java/util/Collections$SequencedSetFromMap"), (3, .class_ 479), (0, u "java/util/Collections$AsLIFOQueue"), (11, .class_ 492), (0, u "java/util/Collections$EmptySet"), (1, .class_ 495), (0, u "java/util/Collections$EmptyList"), (1, .class_ 498), (0, u "java/util/Collections$EmptyMap"), (1, u "BINARYSEARCH_THRESHOLD"), (0, u "I"), (2, u "REVERSE_THRESHOLD"), (1, u "SHUFFLE_THRESHOLD"), (1, u "FILL_THRESHOLD"), (1, u "ROTATE_THRESHOLD"), (1, u "COPY_THRESHOLD"), (1, u "REPLACEALL_THRESHOLD"), (1, u "INDEXOFSUBLIST_THRESHOLD"), (333, .class_ 851), (0, u "java/util/Collections$CheckedMap$CheckedEntrySet"), (0, .class_ 853), (0, u "java/util/Collections$CheckedMap$CheckedEntrySet$CheckedEntry"), (0, .class_ 855), (0, u "java/util/Collections$CheckedMap$CheckedEntrySet$1"), (0, .class_ 857), (0, u "java/util/Collections$CheckedList$1"), (0, .class_ 859), (0, u "java/util/Collections$CheckedCollection$1"), (0, .class_ 861), (0, u "java/util/Collections$UnmodifiableNavigableMap$EmptyNavigableMap"), (0, .class_ 863), (0, u "java/util/Collections$UnmodifiableMap$UnmodifiableEntrySet"), (0, .class_ 865), (0, u "java/util/Collections$UnmodifiableMap$UnmodifiableEntrySet$UnmodifiableEntry"), (0, .class_ 867), (0, u "java/util/Collections$UnmodifiableMap$UnmodifiableEntrySet$UnmodifiableEntrySetSpliterator"), (0, .class_ 869), (0, u "java/util/Collections$UnmodifiableMap$UnmodifiableEntrySet$1"), (0, .class_ 871), (0, u "java/util/Collections$UnmodifiableList$1"), (0, .class_ 873), (0, u "java/util/Collections$UnmodifiableNavigableSet$EmptyNavigableSet"), (0, .class_ 875), (0, u "java/util/Collections$UnmodifiableCollection$1")] 57

def k19m0 : Method := { name := "<init>", desc := "()V", sig := { parameters := [], returnType := none }, accessFlags := 2, code := none }
/-- java/util/Collections -/
def k19 : Class := { plain "java/util/Collections" (some 0) with
  accessFlags := 33
  interfaces := #[]
  cf := some (fileOf pool19 19 #[.nestMembers #[478, 473, 469, 434, 423, 417, 393, 390, 380, 497, 494, 491, 355, 350, 344, 338, 333, 328, 850, 852, 854, 320, 325, 856, 315, 310, 305, 300, 287, 858, 284, 281, 278, 268, 271, 265, 262, 256, 250, 245, 860, 237, 231, 223, 862, 864, 866, 868, 215, 212, 870, 206, 872, 198, 190, 182, 174, 166, 874, 442, 387, 384]] #[{ accessFlags := 2, nameIndex := 5, descriptorIndex := 6, attributes := #[] }] 33 2 #[] #[{ accessFlags := 26, nameIndex := 500, descriptorIndex := 501, attributes := #[] }, { accessFlags := 26, nameIndex := 504, descriptorIndex := 501, attributes := #[] }, { accessFlags := 26, nameIndex := 506, descriptorIndex := 501, attributes := #[] }, { accessFlags := 26, nameIndex := 508, descriptorIndex := 501, attributes := #[] }, { accessFlags := 26, nameIndex := 510, descriptorIndex := 501, attributes := #[] }, { accessFlags := 26, nameIndex := 512, descriptorIndex := 501, attributes := #[] }, { accessFlags := 26, nameIndex := 514, descriptorIndex := 501, attributes := #[] }, { accessFlags := 26, nameIndex := 516, descriptorIndex := 501, attributes := #[] }, { accessFlags := 10, nameIndex := 84, descriptorIndex := 85, attributes := #[] }, { accessFlags := 25, nameIndex := 362, descriptorIndex := 363, attributes := #[] }, { accessFlags := 25, nameIndex := 370, descriptorIndex := 371, attributes := #[] }, { accessFlags := 25, nameIndex := 374, descriptorIndex := 375, attributes := #[] }])
  fields := #[{ name := "BINARYSEARCH_THRESHOLD", type := .int, accessFlags := 26, slot := 0, constantValue := 0 }, { name := "REVERSE_THRESHOLD", type := .int, accessFlags := 26, slot := 1, constantValue := 0 }, { name := "SHUFFLE_THRESHOLD", type := .int, accessFlags := 26, slot := 2, constantValue := 0 }, { name := "FILL_THRESHOLD", type := .int, accessFlags := 26, slot := 3, constantValue := 0 }, { name := "ROTATE_THRESHOLD", type := .int, accessFlags := 26, slot := 4, constantValue := 0 }, { name := "COPY_THRESHOLD", type := .int, accessFlags := 26, slot := 5, constantValue := 0 }, { name := "REPLACEALL_THRESHOLD", type := .int, accessFlags := 26, slot := 6, constantValue := 0 }, { name := "INDEXOFSUBLIST_THRESHOLD", type := .int, accessFlags := 26, slot := 7, constantValue := 0 }, { name := "r", type := (.object "java/util/Random"), accessFlags := 10, slot := 8, constantValue := 0 }, { name := "EMPTY_SET", type := (.object "java/util/Set"), accessFlags := 25, slot := 9, constantValue := 0 }, { name := "EMPTY_LIST", type := (.object "java/util/List"), accessFlags := 25, slot := 10, constantValue := 0 }, { name := "EMPTY_MAP", type := (.object "java/util/Map"), accessFlags := 25, slot := 11, constantValue := 0 }]
  methods := #[k19m0]
  instanceTypes := #[]
  staticTypes := #[.int, .int, .int, .int, .int, .int, .int, .int, (.object "java/util/Random"), (.object "java/util/Set"), (.object "java/util/List"), (.object "java/util/Map")]
  resolved := Array.replicate 933 none
  statics := some 4 }

def pool20 : Array CpInfo := pool [(8, .class_ 10), (1, u "java/lang/Iterable"), (24, .class_ 36), (0, u "java/lang/Object")] 25

/-- java/lang/Iterable -/
def k20 : Class := { plain "java/lang/Iterable" (some 0) with
  accessFlags := 1537
  interfaces := #[]
  cf := some (fileOf pool20 8 #[] #[] 1537 35 #[] #[])
  fields := #[]
  methods := #[]
  instanceTypes := #[]
  staticTypes := #[]
  resolved := Array.replicate 62 none
  statics := none }

def pool21 : Array CpInfo := pool [(10, .class_ 12), (1, u "java/util/Collection"), (47, .class_ 61), (0, u "java/lang/Object"), (0, .class_ 63), (0, u "java/lang/Iterable")] 51

/-- java/util/Collection -/
def k21 : Class := { plain "java/util/Collection" (some 0) with
  accessFlags := 1537
  interfaces := #[20]
  cf := some (fileOf pool21 10 #[] #[] 1537 60 #[62] #[])
  fields := #[]
  methods := #[]
  instanceTypes := #[]
  staticTypes := #[]
  resolved := Array.replicate 115 none
  statics := none }

def pool22 : Array CpInfo := pool [(2, .class_ 4), (1, u "java/lang/Object"), (0, u "<init>"), (0, u "()V"), (1, .class_ 10), (1, u "java/util/AbstractCollection"), (66, .class_ 78), (0, u "java/util/Collection")] 81

def k22m0 : Method := { name := "<init>", desc := "()V", sig := { parameters := [], returnType := none }, accessFlags := 4, code := none }
/-- java/util/AbstractCollection -/
def k22 : Class := { plain "java/util/AbstractCollection" (some 0) with
  accessFlags := 1057
  interfaces := #[21]
  cf := some (fileOf pool22 8 #[] #[{ accessFlags := 4, nameIndex := 5, descriptorIndex := 6, attributes := #[] }] 1057 2 #[77] #[])
  fields := #[]
  methods := #[k22m0]
  instanceTypes := #[]
  staticTypes := #[]
  resolved := Array.replicate 160 none
  statics := none }

def pool23 : Array CpInfo := pool [(8, .class_ 10), (1, u "java/util/SequencedCollection"), (15, .class_ 27), (0, u "java/lang/Object"), (0, .class_ 29), (0, u "java/util/Collection")] 27

/-- java/util/SequencedCollection -/
def k23 : Class := { plain "java/util/SequencedCollection" (some 0) with
  accessFlags := 1537
  interfaces := #[21]
  cf := some (fileOf pool23 8 #[] #[] 1537 26 #[28] #[])
  fields := #[]
  methods := #[]
  instanceTypes := #[]
  staticTypes := #[]
  resolved := Array.replicate 57 none
  statics := none }

def pool24 : Array CpInfo := pool [(8, .class_ 10), (1, u "java/util/List"), (92, .class_ 104), (0, u "java/lang/Object"), (15, .class_ 121), (0, u "java/util/SequencedCollection")] 129

/-- java/util/List -/
def k24 : Class := { plain "java/util/List" (some 0) with
  accessFlags := 1537
  interfaces := #[23]
  cf := some (fileOf pool24 8 #[] #[] 1537 103 #[120] #[])
  fields := #[]
  methods := #[]
  instanceTypes := #[]
  staticTypes := #[]
  resolved := Array.replicate 251 none
  statics := none }

def pool25 : Array CpInfo := pool [(2, .class_ 4), (1, u "java/util/AbstractCollection"), (0, u "<init>"), (0, u "()V"), (1, .class_ 10), (1, u "java/util/AbstractList"), (0, u "modCount"), (0, u "I"), (64, .class_ 78), (0, u "java/util/AbstractList$Itr"), (3, .class_ 83), (0, u "java/util/AbstractList$ListItr"), (9, .class_ 94), (0, u "java/util/AbstractList$RandomAccessSubList"), (3, .class_ 99), (0, u "java/util/AbstractList$SubList"), (33, .class_ 134), (0, u "java/util/List"), (73, .class_ 209), (0, u "java/util/AbstractList$SubList$1"), (0, .class_ 211), (0, u "java/util/AbstractList$RandomAccessSpliterator")] 6

def k25m0 : Method := { name := "<init>", desc := "()V", sig := { parameters := [], returnType := none }, accessFlags := 4, code := none }
/-- java/util/AbstractList -/
def k25 : Class := { plain "java/util/AbstractList" (some 22) with
  accessFlags := 1057
  interfaces := #[24]
  cf := some (fileOf pool25 8 #[.nestMembers #[93, 98, 208, 210, 82, 77]] #[{ accessFlags := 4, nameIndex := 5, descriptorIndex := 6, attributes := #[] }] 1057 2 #[133] #[{ accessFlags := 132, nameIndex := 11, descriptorIndex := 12, attributes := #[] }])
  fields := #[{ name := "modCount", type := .int, accessFlags := 132, slot := 0, constantValue := 0 }]
  methods := #[k25m0]
  instanceTypes := #[.int]
  staticTypes := #[]
  resolved := Array.replicate 218 none
  statics := none }

def pool26 : Array CpInfo := pool [(1, .class_ 2), (0, u "java/util/RandomAccess"), (0, .class_ 4), (0, u "java/lang/Object")] 2

/-- java/util/RandomAccess -/
def k26 : Class := { plain "java/util/RandomAccess" (some 0) with
  accessFlags := 1537
  interfaces := #[]
  cf := some (fileOf pool26 1 #[] #[] 1537 3 #[] #[])
  fields := #[]
  methods := #[]
  instanceTypes := #[]
  staticTypes := #[]
  resolved := Array.replicate 7 none
  statics := none }

def pool27 : Array CpInfo := pool [(2, .class_ 4), (1, u "java/util/AbstractList"), (0, u "<init>"), (0, u "()V"), (1, .class_ 10), (1, u "java/util/Collections"), (54, .class_ 66), (0, u "java/util/Collections$EmptyList"), (0, .class_ 68), (0, u "java/util/RandomAccess"), (0, .class_ 70), (0, u "java/io/Serializable"), (0, u "serialVersionUID"), (0, u "J")] 77

def k27m0 : Method := { name := "<init>", desc := "()V", sig := { parameters := [], returnType := none }, accessFlags := 2, code := none }
/-- java/util/Collections$EmptyList -/
def k27 : Class := { plain "java/util/Collections$EmptyList" (some 25) with
  accessFlags := 32
  interfaces := #[26, 4]
  cf := some (fileOf pool27 65 #[.nestHost 8] #[{ accessFlags := 2, nameIndex := 5, descriptorIndex := 6, attributes := #[] }] 32 2 #[67, 69] #[{ accessFlags := 26, nameIndex := 71, descriptorIndex := 72, attributes := #[] }])
  fields := #[{ name := "serialVersionUID", type := .long, accessFlags := 26, slot := 0, constantValue := 0 }]
  methods := #[k27m0]
  instanceTypes := #[.int]
  staticTypes := #[.long]
  resolved := Array.replicate 150 none
  statics := none }

def pool28 : Array CpInfo := pool [(2, .class_ 4), (1, u "java/lang/StackTraceElement"), (0, u "<init>"), (2, .class_ 10), (1, u "java/lang/Object"), (0, u "()V"), (2, u "format"), (0, u "B"), (2, u "classLoaderName"), (0, u "Ljava/lang/String;"), (2, u "moduleName"), (2, u "moduleVersion"), (12, u "declaringClass"), (4, u "methodName"), (2, u "fileName"), (2, u "lineNumber"), (0, u "I"), (65, u "declaringClassObject"), (0, u "Ljava/lang/Class;"), (33, .class_ 153), (1, u "java/lang/StackTraceElement$HashedModules"), (17, .class_ 172), (0, u "java/io/Serializable"), (0, u "NATIVE_METHOD"), (1, u "UNKNOWN_SOURCE"), (2, u "BUILTIN_CLASS_LOADER"), (1, u "JDK_NON_UPGRADEABLE_MODULE"), (1, u "serialVersionUID"), (0, u "J")] 51

def k28m0 : Method := { name := "<init>", desc := "()V", sig := { parameters := [], returnType := none }, accessFlags := 2, code := none }
/-- java/lang/StackTraceElement -/
def k28 : Class := { plain "java/lang/StackTraceElement" (some 0) with
  accessFlags := 49
  interfaces := #[4]
  cf := some (fileOf pool28 2 #[.nestMembers #[151]] #[{ accessFlags := 2, nameIndex := 5, descriptorIndex := 11, attributes := #[] }] 49 8 #[171] #[{ accessFlags := 26, nameIndex := 173, descriptorIndex := 19, attributes := #[] }, { accessFlags := 26, nameIndex := 175, descriptorIndex := 19, attributes := #[] }, { accessFlags := 130, nameIndex := 116, descriptorIndex := 117, attributes := #[] }, { accessFlags := 2, nameIndex := 18, descriptorIndex := 19, attributes := #[] }, { accessFlags := 2, nameIndex := 22, descriptorIndex := 19, attributes := #[] }, { accessFlags := 2, nameIndex := 25, descriptorIndex := 19, attributes := #[] }, { accessFlags := 2, nameIndex := 38, descriptorIndex := 19, attributes := #[] }, { accessFlags := 2, nameIndex := 43, descriptorIndex := 19, attributes := #[] }, { accessFlags := 2, nameIndex := 46, descriptorIndex := 19, attributes := #[] }, { accessFlags := 2, nameIndex := 49, descriptorIndex := 50, attributes := #[] }, { accessFlags := 2, nameIndex := 14, descriptorIndex := 15, attributes := #[] }, { accessFlags := 26, nameIndex := 178, descriptorIndex := 15, attributes := #[] }, { accessFlags := 26, nameIndex := 180, descriptorIndex := 15, attributes := #[] }, { accessFlags := 26, nameIndex := 182, descriptorIndex := 183, attributes := #[] }])
  fields := #[{ name := "NATIVE_METHOD", type := (.object "java/lang/String"), accessFlags := 26, slot := 0, constantValue := 0 }, { name := "UNKNOWN_SOURCE", type := (.object "java/lang/String"), accessFlags := 26, slot := 1, constantValue := 0 }, { name := "declaringClassObject", type := (.object "java/lang/Class"), accessFlags := 130, slot := 0, constantValue := 0 }, { name := "classLoaderName", type := (.object "java/lang/String"), accessFlags := 2, slot := 1, constantValue := 0 }, { name := "moduleName", type := (.object "java/lang/String"), accessFlags := 2, slot := 2, constantValue := 0 }, { name := "moduleVersion", type := (.object "java/lang/String"), accessFlags := 2, slot := 3, constantValue := 0 }, { name := "declaringClass", type := (.object "java/lang/String"), accessFlags := 2, slot := 4, constantValue := 0 }, { name := "methodName", type := (.object "java/lang/String"), accessFlags := 2, slot := 5, constantValue := 0 }, { name := "fileName", type := (.object "java/lang/String"), accessFlags := 2, slot := 6, constantValue := 0 }, { name := "lineNumber", type := .int, accessFlags := 2, slot := 7, constantValue := 0 }, { name := "format", type := .byte, accessFlags := 2, slot := 8, constantValue := 0 }, { name := "BUILTIN_CLASS_LOADER", type := .byte, accessFlags := 26, slot := 2, constantValue := 0 }, { name := "JDK_NON_UPGRADEABLE_MODULE", type := .byte, accessFlags := 26, slot := 3, constantValue := 0 }, { name := "serialVersionUID", type := .long, accessFlags := 26, slot := 4, constantValue := 0 }]
  methods := #[k28m0]
  instanceTypes := #[(.object "java/lang/Class"), (.object "java/lang/String"), (.object "java/lang/String"), (.object "java/lang/String"), (.object "java/lang/String"), (.object "java/lang/String"), (.object "java/lang/String"), .int, .byte]
  staticTypes := #[(.object "java/lang/String"), (.object "java/lang/String"), .byte, .byte, .long]
  resolved := Array.replicate 235 none
  statics := none }

def pool29 : Array CpInfo := pool [(1, u "java/lang/Cloneable"), (0, .class_ 1), (0, u "java/lang/Object"), (0, .class_ 3)] 3

/-- java/lang/Cloneable -/
def k29 : Class := { plain "java/lang/Cloneable" (some 0) with
  accessFlags := 1537
  interfaces := #[]
  cf := some (fileOf pool29 2 #[] #[] 1537 4 #[] #[])
  fields := #[]
  methods := #[]
  instanceTypes := #[]
  staticTypes := #[]
  resolved := Array.replicate 8 none
  statics := none }

/-- the primitive byte -/
def k30 : Class := { plain "byte" none with kind := .primitive 'B', accessFlags := 0x411 }
/-- [B -/
def k31 : Class := { plain "[B" (some 0) with kind := .array 30 .byte, interfaces := #[29, 4], accessFlags := 1041 }

/-- the primitive char -/
def k32 : Class := { plain "char" none with kind := .primitive 'C', accessFlags := 0x411 }
/-- [C -/
def k33 : Class := { plain "[C" (some 0) with kind := .array 32 .char, interfaces := #[29, 4], accessFlags := 1041 }

/-- the primitive int -/
def k34 : Class := { plain "int" none with kind := .primitive 'I', accessFlags := 0x411 }
/-- [I -/
def k35 : Class := { plain "[I" (some 0) with kind := .array 34 .int, interfaces := #[29, 4], accessFlags := 1041 }

/-- [Ljava/lang/Object; -/
def k36 : Class := { plain "[Ljava/lang/Object;" (some 0) with kind := .array 0 (.object "java/lang/Object"), interfaces := #[29, 4], accessFlags := 1041 }

/-- [Ljava/lang/StackTraceElement; -/
def k37 : Class := { plain "[Ljava/lang/StackTraceElement;" (some 0) with kind := .array 28 (.object "java/lang/StackTraceElement"), interfaces := #[29, 4], accessFlags := 1041 }

/-- [Ljava/lang/Throwable; -/
def k38 : Class := { plain "[Ljava/lang/Throwable;" (some 0) with kind := .array 11 (.object "java/lang/Throwable"), interfaces := #[29, 4], accessFlags := 1041 }

def heap : Heap := #[{ cls := 6, slots := #[.ref 5, .ref 6, .ref 7, .ref 8, .ref 9, .ref 10, .ref 11, .ref 12, .ref 13, .ref 14, .ref 15, .ref 16, .ref 17, .ref 18, .null], vm := .statics 6 },
  { cls := 9, slots := #[.long 0, .int 1, .null, .int 0, .null, .int 0, .int 0], vm := .statics 9 },
  { cls := 11, slots := #[.long 0, .ref 19, .ref 20, .null, .null, .null, .null, .ref 21, .int 1], vm := .statics 11 },
  { cls := 17, slots := #[.null, .null, .null], vm := .statics 17 },
  { cls := 19, slots := #[.int 0, .int 0, .int 0, .int 0, .int 0, .int 0, .int 0, .int 0, .null, .null, .ref 20, .null], vm := .statics 19 },
  { cls := 6, slots := #[.null, .int 0, .int 0, .null], vm := .none },
  { cls := 6, slots := #[.null, .int 1, .int 0, .null], vm := .none },
  { cls := 6, slots := #[.null, .int 2, .int 0, .null], vm := .none },
  { cls := 6, slots := #[.null, .int 3, .int 0, .null], vm := .none },
  { cls := 6, slots := #[.null, .int 4, .int 0, .null], vm := .none },
  { cls := 6, slots := #[.null, .int 5, .int 0, .null], vm := .none },
  { cls := 6, slots := #[.null, .int 6, .int 0, .null], vm := .none },
  { cls := 6, slots := #[.null, .int 7, .int 0, .null], vm := .none },
  { cls := 6, slots := #[.null, .int 8, .int 0, .null], vm := .none },
  { cls := 6, slots := #[.null, .int 9, .int 0, .null], vm := .none },
  { cls := 6, slots := #[.null, .int 10, .int 0, .null], vm := .none },
  { cls := 6, slots := #[.null, .int 11, .int 0, .null], vm := .none },
  { cls := 6, slots := #[.null, .int 12, .int 0, .null], vm := .none },
  { cls := 6, slots := #[.null, .int 13, .int 0, .null], vm := .none },
  { cls := 37, slots := #[], vm := .none },
  { cls := 27, slots := #[.int 0], vm := .none },
  { cls := 38, slots := #[], vm := .none }]
def classes : Array Class := #[k0, k1, k2, k3, k4, k5, k6, k7, k8, k9, k10, k11, k12, k13, k14, k15, k16, k17, k18, k19, k20, k21, k22, k23, k24, k25, k26, k27, k28, k29, k30, k31, k32, k33, k34, k35, k36, k37, k38]
def interned : List (Array UInt16 × Addr) := []
def slotsUsed : Nat := 103
def theMethod : MethodId := ⟨1, 3⟩
def args0 : Array Value := #[.int 5, .int 5, .int 5, .int 5, .int 5]
def aboutOver (below : List Frame) : State where
  vm := { classes := classes, interned := interned.toArray }
  heap := heap
  slotsUsed := slotsUsed
  threads := #[{ frames := .invoking theMethod args0 :: below }]
def below0 : List Frame := [.native { method := ⟨0, 0⟩, args := #[] }]
def about1 : State := aboutOver below0
def p0 : Program := .bare "" "" ""
def e0 : Env := launch0.env 0 0 0
theorem w_frames : about1.frames = Frame.invoking theMethod args0 :: below0 := rfl
set_option maxRecDepth 65536 in
theorem w_args : argsFit about1.vm theMethod args0 = true := by decide +kernel
set_option maxRecDepth 65536 in
theorem w_heap : heapFits about1 = true := by decide +kernel
set_option maxRecDepth 65536 in
theorem w_runnable : about1.curStatus? = some .runnable := by decide +kernel
set_option maxRecDepth 65536 in
theorem w_alone : about1.alone = true := by decide +kernel
set_option maxRecDepth 65536 in
theorem w_named : about1.methodNamed? x = some theMethod := by decide +kernel
set_option maxRecDepth 65536 in
theorem w_hears : about1.hears theMethod below0 = true := by decide +kernel
set_option maxRecDepth 65536 in
theorem w_ripe : about1.ripe theMethod args0 below0 = true := by decide +kernel
theorem w_running : about1.status = .running := rfl
set_option maxRecDepth 65536 in
theorem w_room : about1.hasRoom e0.platform room_1 = true :=
  launch0.hasRoom_least _ room_1 (by decide +kernel) (by decide +kernel) (by decide +kernel) (by decide +kernel) (by decide +kernel) (by decide +kernel)
theorem allAtoms_all (ts : List Jvm.Cond) (a : Array Jvm.Value) (st : Jvm.State) : (allAtoms ts).before a st = ts.all (fun c => c.before a st) := by
  induction ts with
  | nil => rfl
  | cons c t ih =>
    show (Jvm.Cond.and c (allAtoms t)).before a st = _
    rw [Jvm.Cond.before_and, ih, List.all_cons]
def words1 : List Jvm.Cond := Jvm.Cond.code x code maxLocals ret :: tables_1
/-- a 'code' word, met by the world's own term for the bytes: nothing is compared byte by byte -/
theorem code_word {y : MethodName} {bytes : ByteArray} {mx : Nat} {rt : Option FieldType} {a : Array Value} {s : State} {m : MethodId} {meth : Method} {c : Code} (h1 : s.methodNamed? y = some m) (h2 : s.vm.method? m = some meth) (h3 : meth.code = some c) (h4 : c.code = bytes)
    (h5 : (c.maxLocals == mx && c.exceptionTable.isEmpty && decide (c.maxStack ≤ mostOperands) && decide (meth.sig.returnType = rt) && !meth.locks && decide (parseMethodDescriptor y.desc = some meth.sig)) = true) : (Jvm.Cond.code y bytes mx rt).before a s = true := by
  simp only [Bool.and_eq_true, beq_iff_eq, Bool.not_eq_true', decide_eq_true_eq] at h5
  obtain ⟨⟨⟨⟨⟨g1, g2⟩, g3⟩, g4⟩, g5⟩, g6⟩ := h5
  simp [Cond.before, Cond.holds, Cond.value, h1, h2, h3, h4, g1, g2, g3, g4, g5, g6]
def isCode : Jvm.Cond → Bool
  | .code _ _ _ _ => true
  | _ => false
theorem all_split {L : List Jvm.Cond} {P : Jvm.Cond → Bool} (h1 : L.all (fun c => isCode c || P c) = true) (h2 : ∀ c ∈ L.filter isCode, P c = true) : L.all P = true := by
  refine List.all_eq_true.mpr fun c hc => ?_
  have h := List.all_eq_true.mp h1 c hc
  rcases Bool.eq_false_or_eq_true (isCode c) with hi | hi
  · exact h2 c (List.mem_filter.mpr ⟨hc, hi⟩)
  · simpa [hi] using h
set_option maxRecDepth 65536 in
theorem w_c0 : (Jvm.Cond.code x code maxLocals ret).before args0 about1 = true := code_word (m := ⟨1, 3⟩) (meth := k1m3) (c := k1c3) (by decide +kernel) rfl rfl rfl (by decide +kernel)
set_option maxRecDepth 65536 in
theorem w_c1 : (Jvm.Cond.code ({ cls := "com/example/reticolo/reticolo/service/XdsExceptionErrorPinLaw", name := "pick", desc := "(I)Lcom/example/reticolo/reticolo/model/XdsErrorCode;" } : Jvm.MethodName) method_2_code (2 : Nat) (Option.some (Jvm.ClassFile.FieldType.object "com/example/reticolo/reticolo/model/XdsErrorCode"))).before args0 about1 = true := code_word (m := ⟨1, 1⟩) (meth := k1m1) (c := k1c1) (by decide +kernel) rfl rfl rfl (by decide +kernel)
set_option maxRecDepth 65536 in
theorem w_c2 : (Jvm.Cond.code ({ cls := "com/example/reticolo/reticolo/service/XdsExceptionErrorPinLaw", name := "text", desc := "(IIII)Ljava/lang/String;" } : Jvm.MethodName) method_3_code (9 : Nat) (Option.some (Jvm.ClassFile.FieldType.object "java/lang/String"))).before args0 about1 = true := code_word (m := ⟨1, 2⟩) (meth := k1m2) (c := k1c2) (by decide +kernel) rfl rfl rfl (by decide +kernel)
set_option maxRecDepth 65536 in
theorem w_c3 : (Jvm.Cond.code ({ cls := "java/lang/String", name := "<init>", desc := "([C)V" } : Jvm.MethodName) jdk_42_method_3_code (2 : Nat) (Option.none : Option Jvm.ClassFile.FieldType)).before args0 about1 = true := code_word (m := ⟨9, 1⟩) (meth := k9m1) (c := k9c1) (by decide +kernel) rfl rfl rfl (by decide +kernel)
set_option maxRecDepth 65536 in
theorem w_c4 : (Jvm.Cond.code ({ cls := "java/lang/String", name := "<init>", desc := "([CIILjava/lang/Void;)V" } : Jvm.MethodName) jdk_42_method_149_code (6 : Nat) (Option.none : Option Jvm.ClassFile.FieldType)).before args0 about1 = true := code_word (m := ⟨9, 3⟩) (meth := k9m3) (c := k9c3) (by decide +kernel) rfl rfl rfl (by decide +kernel)
set_option maxRecDepth 65536 in
theorem w_c5 : (Jvm.Cond.code ({ cls := "java/lang/Object", name := "<init>", desc := "()V" } : Jvm.MethodName) object_method_1_code (1 : Nat) (Option.none : Option Jvm.ClassFile.FieldType)).before args0 about1 = true := code_word (m := ⟨0, 0⟩) (meth := k0m0) (c := k0c0) (by decide +kernel) rfl rfl rfl (by decide +kernel)
set_option maxRecDepth 65536 in
theorem w_c6 : (Jvm.Cond.code ({ cls := "java/lang/StringUTF16", name := "compress", desc := "([CII)[B" } : Jvm.MethodName) jdk_52_method_16_code (6 : Nat) (Option.some (Jvm.ClassFile.FieldType.array Jvm.ClassFile.FieldType.byte))).before args0 about1 = true := code_word (m := ⟨10, 2⟩) (meth := k10m2) (c := k10c2) (by decide +kernel) rfl rfl rfl (by decide +kernel)
set_option maxRecDepth 65536 in
theorem w_c7 : (Jvm.Cond.code ({ cls := "java/lang/StringUTF16", name := "compress", desc := "([CI[BII)I" } : Jvm.MethodName) jdk_52_method_21_code (7 : Nat) (Option.some Jvm.ClassFile.FieldType.int)).before args0 about1 = true := code_word (m := ⟨10, 3⟩) (meth := k10m3) (c := k10c3) (by decide +kernel) rfl rfl rfl (by decide +kernel)
set_option maxRecDepth 65536 in
theorem w_c8 : (Jvm.Cond.code ({ cls := "java/lang/StringUTF16", name := "coderFromArrayLen", desc := "([BI)B" } : Jvm.MethodName) jdk_52_method_15_code (2 : Nat) (Option.some Jvm.ClassFile.FieldType.byte)).before args0 about1 = true := code_word (m := ⟨10, 1⟩) (meth := k10m1) (c := k10c1) (by decide +kernel) rfl rfl rfl (by decide +kernel)
set_option maxRecDepth 65536 in
theorem w_c9 : (Jvm.Cond.code ({ cls := "com/example/reticolo/reticolo/service/XdsException", name := "<init>", desc := "(Lcom/example/reticolo/reticolo/model/XdsErrorCode;Ljava/lang/String;)V" } : Jvm.MethodName) prog_24_method_1_code (3 : Nat) (Option.none : Option Jvm.ClassFile.FieldType)).before args0 about1 = true := code_word (m := ⟨13, 0⟩) (meth := k13m0) (c := k13c0) (by decide +kernel) rfl rfl rfl (by decide +kernel)
set_option maxRecDepth 65536 in
theorem w_c10 : (Jvm.Cond.code ({ cls := "java/lang/Exception", name := "<init>", desc := "(Ljava/lang/String;)V" } : Jvm.MethodName) jdk_59_method_2_code (2 : Nat) (Option.none : Option Jvm.ClassFile.FieldType)).before args0 about1 = true := code_word (m := ⟨12, 1⟩) (meth := k12m1) (c := k12c1) (by decide +kernel) rfl rfl rfl (by decide +kernel)
set_option maxRecDepth 65536 in
theorem w_c11 : (Jvm.Cond.code ({ cls := "java/lang/Throwable", name := "<init>", desc := "(Ljava/lang/String;)V" } : Jvm.MethodName) jdk_78_method_2_code (2 : Nat) (Option.none : Option Jvm.ClassFile.FieldType)).before args0 about1 = true := code_word (m := ⟨11, 1⟩) (meth := k11m1) (c := k11c1) (by decide +kernel) rfl rfl rfl (by decide +kernel)
set_option maxRecDepth 65536 in
theorem w_c12 : (Jvm.Cond.code ({ cls := "java/lang/Throwable", name := "<init>", desc := "()V" } : Jvm.MethodName) jdk_78_method_1_code (1 : Nat) (Option.none : Option Jvm.ClassFile.FieldType)).before args0 about1 = true := code_word (m := ⟨11, 0⟩) (meth := k11m0) (c := k11c0) (by decide +kernel) rfl rfl rfl (by decide +kernel)
set_option maxRecDepth 65536 in
theorem w_c13 : (Jvm.Cond.code ({ cls := "com/example/reticolo/reticolo/service/XdsException", name := "error", desc := "()Lcom/example/reticolo/reticolo/model/XdsError;" } : Jvm.MethodName) prog_24_method_3_code (1 : Nat) (Option.some (Jvm.ClassFile.FieldType.object "com/example/reticolo/reticolo/model/XdsError"))).before args0 about1 = true := code_word (m := ⟨13, 1⟩) (meth := k13m1) (c := k13c1) (by decide +kernel) rfl rfl rfl (by decide +kernel)
set_option maxRecDepth 65536 in
theorem w_c14 : (Jvm.Cond.code ({ cls := "java/lang/Throwable", name := "getMessage", desc := "()Ljava/lang/String;" } : Jvm.MethodName) jdk_78_method_6_code (1 : Nat) (Option.some (Jvm.ClassFile.FieldType.object "java/lang/String"))).before args0 about1 = true := code_word (m := ⟨11, 2⟩) (meth := k11m2) (c := k11c2) (by decide +kernel) rfl rfl rfl (by decide +kernel)
set_option maxRecDepth 65536 in
theorem w_c15 : (Jvm.Cond.code ({ cls := "com/example/reticolo/reticolo/model/XdsError", name := "<init>", desc := "(Lcom/example/reticolo/reticolo/model/XdsErrorCode;Ljava/lang/String;)V" } : Jvm.MethodName) prog_21_method_1_code (3 : Nat) (Option.none : Option Jvm.ClassFile.FieldType)).before args0 about1 = true := code_word (m := ⟨15, 0⟩) (meth := k15m0) (c := k15c0) (by decide +kernel) rfl rfl rfl (by decide +kernel)
set_option maxRecDepth 65536 in
theorem w_c16 : (Jvm.Cond.code ({ cls := "java/lang/Record", name := "<init>", desc := "()V" } : Jvm.MethodName) jdk_30_method_1_code (1 : Nat) (Option.none : Option Jvm.ClassFile.FieldType)).before args0 about1 = true := code_word (m := ⟨14, 0⟩) (meth := k14m0) (c := k14c0) (by decide +kernel) rfl rfl rfl (by decide +kernel)
set_option maxRecDepth 65536 in
theorem w_c17 : (Jvm.Cond.code ({ cls := "com/example/reticolo/reticolo/model/XdsError", name := "context", desc := "()Ljava/lang/String;" } : Jvm.MethodName) prog_21_method_6_code (1 : Nat) (Option.some (Jvm.ClassFile.FieldType.object "java/lang/String"))).before args0 about1 = true := code_word (m := ⟨15, 2⟩) (meth := k15m2) (c := k15c2) (by decide +kernel) rfl rfl rfl (by decide +kernel)
set_option maxRecDepth 65536 in
theorem w_c18 : (Jvm.Cond.code ({ cls := "com/example/reticolo/reticolo/model/XdsError", name := "code", desc := "()Lcom/example/reticolo/reticolo/model/XdsErrorCode;" } : Jvm.MethodName) prog_21_method_5_code (1 : Nat) (Option.some (Jvm.ClassFile.FieldType.object "com/example/reticolo/reticolo/model/XdsErrorCode"))).before args0 about1 = true := code_word (m := ⟨15, 1⟩) (meth := k15m1) (c := k15c1) (by decide +kernel) rfl rfl rfl (by decide +kernel)
set_option maxRecDepth 65536 in
theorem w_c19 : (Jvm.Cond.code ({ cls := "java/lang/String", name := "equals", desc := "(Ljava/lang/Object;)Z" } : Jvm.MethodName) jdk_42_method_66_code (3 : Nat) (Option.some Jvm.ClassFile.FieldType.boolean)).before args0 about1 = true := code_word (m := ⟨9, 2⟩) (meth := k9m2) (c := k9c2) (by decide +kernel) rfl rfl rfl (by decide +kernel)
def codes1 : List Jvm.Cond := [Jvm.Cond.code x code maxLocals ret, Jvm.Cond.code ({ cls := "com/example/reticolo/reticolo/service/XdsExceptionErrorPinLaw", name := "pick", desc := "(I)Lcom/example/reticolo/reticolo/model/XdsErrorCode;" } : Jvm.MethodName) method_2_code (2 : Nat) (Option.some (Jvm.ClassFile.FieldType.object "com/example/reticolo/reticolo/model/XdsErrorCode")), Jvm.Cond.code ({ cls := "com/example/reticolo/reticolo/service/XdsExceptionErrorPinLaw", name := "text", desc := "(IIII)Ljava/lang/String;" } : Jvm.MethodName) method_3_code (9 : Nat) (Option.some (Jvm.ClassFile.FieldType.object "java/lang/String")), Jvm.Cond.code ({ cls := "java/lang/String", name := "<init>", desc := "([C)V" } : Jvm.MethodName) jdk_42_method_3_code (2 : Nat) (Option.none : Option Jvm.ClassFile.FieldType), Jvm.Cond.code ({ cls := "java/lang/String", name := "<init>", desc := "([CIILjava/lang/Void;)V" } : Jvm.MethodName) jdk_42_method_149_code (6 : Nat) (Option.none : Option Jvm.ClassFile.FieldType), Jvm.Cond.code ({ cls := "java/lang/Object", name := "<init>", desc := "()V" } : Jvm.MethodName) object_method_1_code (1 : Nat) (Option.none : Option Jvm.ClassFile.FieldType), Jvm.Cond.code ({ cls := "java/lang/StringUTF16", name := "compress", desc := "([CII)[B" } : Jvm.MethodName) jdk_52_method_16_code (6 : Nat) (Option.some (Jvm.ClassFile.FieldType.array Jvm.ClassFile.FieldType.byte)), Jvm.Cond.code ({ cls := "java/lang/StringUTF16", name := "compress", desc := "([CI[BII)I" } : Jvm.MethodName) jdk_52_method_21_code (7 : Nat) (Option.some Jvm.ClassFile.FieldType.int), Jvm.Cond.code ({ cls := "java/lang/StringUTF16", name := "coderFromArrayLen", desc := "([BI)B" } : Jvm.MethodName) jdk_52_method_15_code (2 : Nat) (Option.some Jvm.ClassFile.FieldType.byte), Jvm.Cond.code ({ cls := "com/example/reticolo/reticolo/service/XdsException", name := "<init>", desc := "(Lcom/example/reticolo/reticolo/model/XdsErrorCode;Ljava/lang/String;)V" } : Jvm.MethodName) prog_24_method_1_code (3 : Nat) (Option.none : Option Jvm.ClassFile.FieldType), Jvm.Cond.code ({ cls := "java/lang/Exception", name := "<init>", desc := "(Ljava/lang/String;)V" } : Jvm.MethodName) jdk_59_method_2_code (2 : Nat) (Option.none : Option Jvm.ClassFile.FieldType), Jvm.Cond.code ({ cls := "java/lang/Throwable", name := "<init>", desc := "(Ljava/lang/String;)V" } : Jvm.MethodName) jdk_78_method_2_code (2 : Nat) (Option.none : Option Jvm.ClassFile.FieldType), Jvm.Cond.code ({ cls := "java/lang/Throwable", name := "<init>", desc := "()V" } : Jvm.MethodName) jdk_78_method_1_code (1 : Nat) (Option.none : Option Jvm.ClassFile.FieldType), Jvm.Cond.code ({ cls := "com/example/reticolo/reticolo/service/XdsException", name := "error", desc := "()Lcom/example/reticolo/reticolo/model/XdsError;" } : Jvm.MethodName) prog_24_method_3_code (1 : Nat) (Option.some (Jvm.ClassFile.FieldType.object "com/example/reticolo/reticolo/model/XdsError")), Jvm.Cond.code ({ cls := "java/lang/Throwable", name := "getMessage", desc := "()Ljava/lang/String;" } : Jvm.MethodName) jdk_78_method_6_code (1 : Nat) (Option.some (Jvm.ClassFile.FieldType.object "java/lang/String")), Jvm.Cond.code ({ cls := "com/example/reticolo/reticolo/model/XdsError", name := "<init>", desc := "(Lcom/example/reticolo/reticolo/model/XdsErrorCode;Ljava/lang/String;)V" } : Jvm.MethodName) prog_21_method_1_code (3 : Nat) (Option.none : Option Jvm.ClassFile.FieldType), Jvm.Cond.code ({ cls := "java/lang/Record", name := "<init>", desc := "()V" } : Jvm.MethodName) jdk_30_method_1_code (1 : Nat) (Option.none : Option Jvm.ClassFile.FieldType), Jvm.Cond.code ({ cls := "com/example/reticolo/reticolo/model/XdsError", name := "context", desc := "()Ljava/lang/String;" } : Jvm.MethodName) prog_21_method_6_code (1 : Nat) (Option.some (Jvm.ClassFile.FieldType.object "java/lang/String")), Jvm.Cond.code ({ cls := "com/example/reticolo/reticolo/model/XdsError", name := "code", desc := "()Lcom/example/reticolo/reticolo/model/XdsErrorCode;" } : Jvm.MethodName) prog_21_method_5_code (1 : Nat) (Option.some (Jvm.ClassFile.FieldType.object "com/example/reticolo/reticolo/model/XdsErrorCode")), Jvm.Cond.code ({ cls := "java/lang/String", name := "equals", desc := "(Ljava/lang/Object;)Z" } : Jvm.MethodName) jdk_42_method_66_code (3 : Nat) (Option.some Jvm.ClassFile.FieldType.boolean)]
set_option maxRecDepth 65536 in
theorem codes_eq : words1.filter isCode = codes1 := rfl
theorem w_codes : ∀ c ∈ words1.filter isCode, c.before args0 about1 = true := by
  rw [codes_eq]
  intro c hc
  simp only [codes1, List.mem_cons, List.not_mem_nil, or_false] at hc
  rcases hc with rfl | rfl | rfl | rfl | rfl | rfl | rfl | rfl | rfl | rfl | rfl | rfl | rfl | rfl | rfl | rfl | rfl | rfl | rfl | rfl
  · exact w_c0
  · exact w_c1
  · exact w_c2
  · exact w_c3
  · exact w_c4
  · exact w_c5
  · exact w_c6
  · exact w_c7
  · exact w_c8
  · exact w_c9
  · exact w_c10
  · exact w_c11
  · exact w_c12
  · exact w_c13
  · exact w_c14
  · exact w_c15
  · exact w_c16
  · exact w_c17
  · exact w_c18
  · exact w_c19
set_option maxRecDepth 65536 in
theorem w_t1 : (words1.take 24).all (fun c => isCode c || c.before args0 about1) = true := by decide +kernel
set_option maxRecDepth 65536 in
theorem w_t2 : ((words1.drop 24).take 24).all (fun c => isCode c || c.before args0 about1) = true := by decide +kernel
set_option maxRecDepth 65536 in
theorem w_t3 : (((words1.drop 24).drop 24).take 24).all (fun c => isCode c || c.before args0 about1) = true := by decide +kernel
set_option maxRecDepth 65536 in
theorem w_t4 : ((((words1.drop 24).drop 24).drop 24).take 24).all (fun c => isCode c || c.before args0 about1) = true := by decide +kernel
set_option maxRecDepth 65536 in
theorem w_t5 : (((((words1.drop 24).drop 24).drop 24).drop 24).take 24).all (fun c => isCode c || c.before args0 about1) = true := by decide +kernel
set_option maxRecDepth 65536 in
theorem w_t6 : ((((((words1.drop 24).drop 24).drop 24).drop 24).drop 24).take 24).all (fun c => isCode c || c.before args0 about1) = true := by decide +kernel
set_option maxRecDepth 65536 in
theorem w_t7 : (((((((words1.drop 24).drop 24).drop 24).drop 24).drop 24).drop 24).take 24).all (fun c => isCode c || c.before args0 about1) = true := by decide +kernel
set_option maxRecDepth 65536 in
theorem w_t8 : (((((((words1.drop 24).drop 24).drop 24).drop 24).drop 24).drop 24).drop 24).all (fun c => isCode c || c.before args0 about1) = true := by decide +kernel
theorem w_tables : (allAtoms (Jvm.Cond.code x code maxLocals ret :: tables_1)).before args0 about1 = true := by
  rw [allAtoms_all]
  show words1.all (fun c => c.before args0 about1) = true
  refine all_split ?_ w_codes
  rw [← List.take_append_drop 24 words1, List.all_append, w_t1, ← List.take_append_drop 24 (words1.drop 24), List.all_append, w_t2, ← List.take_append_drop 24 ((words1.drop 24).drop 24), List.all_append, w_t3, ← List.take_append_drop 24 (((words1.drop 24).drop 24).drop 24), List.all_append, w_t4, ← List.take_append_drop 24 ((((words1.drop 24).drop 24).drop 24).drop 24), List.all_append, w_t5, ← List.take_append_drop 24 (((((words1.drop 24).drop 24).drop 24).drop 24).drop 24), List.all_append, w_t6, ← List.take_append_drop 24 ((((((words1.drop 24).drop 24).drop 24).drop 24).drop 24).drop 24), List.all_append, w_t7, w_t8]
  rfl
set_option maxRecDepth 65536 in
theorem w_rest : rest_1_c.before args0 about1 = true := by decide +kernel
set_option maxRecDepth 65536 in
theorem w_case : (Jvm.Cond.and given_1 narrow_1).before args0 about1 = true := by decide +kernel
set_option maxRecDepth 65536 in
theorem w_consts : constsHeld consts_1 about1 := Jvm.Lit.constsHeldB_iff.mp (by decide +kernel)
theorem w_applies : (headSpec (Jvm.Cond.code x code maxLocals ret :: tables_1) room_1).applies x e0.platform about1 = true :=
  (Spec.applies_iff w_frames).mpr ⟨w_running, w_runnable, w_alone, w_named, w_hears, w_ripe, w_room, w_tables⟩
theorem atStart : AtStart classFile x code maxLocals ret World_1 tables_1 room_1 Calls_1 rest_1 Pre_1 launch0 p0 e0 about1 theMethod args0 below0 :=
  ⟨lists_1, trivial, launch0.admits_env _ _ _, launch0.least_env, fairChoices_fair.cas, fairChoices_fair.clock, w_frames, w_args, w_heap, w_applies, ⟨(by decide +kernel : framesKnown about1 = true), ⟨(by decide +kernel : tablesKnown about1 = true), ⟨w_consts, trivial⟩⟩⟩, w_rest, w_case⟩
end start1
theorem witness_1 : WitnessClaimed_1 := ⟨start1.p0, start1.e0, start1.about1, start1.theMethod, start1.args0, start1.below0, start1.atStart⟩
end Jvm.Pilot.@@N@@
