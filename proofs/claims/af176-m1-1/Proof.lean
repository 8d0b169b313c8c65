import JvmDerived
import JvmDerived.Pilot.@@N@@Statement
import JvmDerived.Pilot.@@N@@Code
set_option linter.unusedVariables false
set_option linter.unusedSimpArgs false
namespace Jvm.Pilot.@@N@@
open Jvm Jvm.ClassFile Sem Op Lib Jvm.Free Jvm.Stand Jvm.LawKit Jvm.RoadKit Bundle Jvm.Pilot.@@N@@.Jvm.D
section OwnKit
variable {p : Program} {l : Launch} {e : Env} {R : Room} {s : State} {m : MethodId} {args : Array Value} {below : List Frame} {meth : Method} {c : Code} {T : State} {locs : List Loc} {cells slots : Nat}
def own_G (tb : Tables) (e : Env) (below : List Frame) (s : State) (Q : Option Value → Heap → List Loc → Prop) (k n : Nat) (A : State) : Prop :=
  ∃ u o, Steps tb e below A u ∧ u.status = .running ∧ Ended u below o ∧ ∃ v L, o = Outcome.returned v ∧ Q v u.heap L ∧ FrameEnd s o u L k n
theorem own_go {tb : Tables} {Q : Option Value → Heap → List Loc → Prop} {k n : Nat} {A B : State} (h : ∀ t, Steps tb e below B t → Steps tb e below A t) (g : own_G tb e below s Q k n B) : own_G tb e below s Q k n A := by
  obtain ⟨u, o, h1, r⟩ := g; exact ⟨u, o, h u h1, r⟩
theorem own_ret (X : Stand p l e R s m args below meth c T locs cells slots) (hx : p.tables.exec = Jvm.exec) {pc : Nat} {Ls : Array Slot} {w : Value} {t : FieldType} {i : Instr} {rest : List Value} (hret : meth.sig.returnType = some t) (hn : narrow t w = w)
    (hi : (i = .ireturn ∧ (t = .int ∨ t = .boolean ∨ t = .byte ∨ t = .char ∨ t = .short) ∧ ∃ z, w = .int z) ∨ (i = .lreturn ∧ t = .long ∧ ∃ z, w = .long z) ∨ (i = .dreturn ∧ t = .double ∧ ∃ z, w = .double z) ∨ (i = .freturn ∧ t = .float ∧ ∃ z, w = .float z) ∨ (i = .areturn ∧ t.isReference = true ∧ w.isRef = true))
    (hd : decode c.code pc = .ok (i, 1)) (hlocks : meth.locks = false) {Q : Option Value → Heap → List Loc → Prop} {k n : Nat} (hQ : Q (some w) T.heap locs) (hk : cells ≤ k) (hs : slots ≤ n) : own_G p.tables e below s Q k n (T.setTop (mkF m pc Ls (w :: rest))) := by
  obtain ⟨fs, hr, hrun, hended, hW, hsame⟩ := X.leave (v := some w) (fun h => by rw [hret] at h; cases h) hlocks
  exact ⟨_, _, retOut X hx hret hn hi hd hr, hrun, hended, _, _, rfl, hQ, ⟨_, rfl⟩, hW, hsame.mono hk hs⟩
theorem own_retV (X : Stand p l e R s m args below meth c T locs cells slots) (hx : p.tables.exec = Jvm.exec) {pc : Nat} {Ls : Array Slot} (hret : meth.sig.returnType = none)
    (hd : decode c.code pc = .ok (.return_, 1)) (hlocks : meth.locks = false) {Q : Option Value → Heap → List Loc → Prop} {k n : Nat} (hQ : Q none T.heap locs) (hk : cells ≤ k) (hs : slots ≤ n) : own_G p.tables e below s Q k n (T.setTop (mkF m pc Ls [])) := by
  obtain ⟨fs, hr, hrun, hended, hW, hsame⟩ := X.leave (v := none) (fun _ => rfl) hlocks
  exact ⟨_, _, X.returnOut hx hret hd hr, hrun, hended, _, _, rfl, hQ, ⟨_, rfl⟩, hW, hsame.mono hk hs⟩
def own_Met (l : Launch) (Z : State) (y : MethodName) (bytes : ByteArray) (maxL : Nat) (ret : Option FieldType) (ws : List Jvm.Cond) (rm : Room) (as' : Array Value) (h0 : Heap) (Q : Option Value → Heap → List Loc → Prop) : Prop :=
  MetFree l y (head1 (Jvm.Cond.code y bytes maxL ret :: ws) rm) (fun a U => a = as' ∧ Z.Warmed39 U.vm ∧ U.heap = h0) (fun _ _ _ _ _ => True) (fun _ U o U' => ∃ v L, o = .returned v ∧ Q v U'.heap L ∧ FrameEnd U o U' L rm.cells rm.slots)
theorem own_body {l : Launch} {Z : State} {y : MethodName} {bytes : ByteArray} {maxL : Nat} {ret : Option FieldType} {ws : List Jvm.Cond} {rm : Room} {as' : Array Value} {h0 : Heap} {Q : Option Value → Heap → List Loc → Prop} (hp : plainFor y = true)
    (H : ∀ (p : Program) (e : Env) (s : State) (m : MethodId) (below : List Frame) (meth : Method) (c : Code) (s₁ : State), p.tables.exec = Jvm.exec → c.code = bytes → c.maxLocals = maxL → s.vm.findClass y.cls = some m.cls → meth.name = y.name → meth.locks = false → meth.sig.returnType = ret → Z.Warmed39 s.vm → Stand p l e rm s m as' below meth c s₁ [] 0 0 → s₁.heap = h0 →
      own_G p.tables e below s Q rm.cells rm.slots (s₁.setTop (entryFrame m as' maxL))) : own_Met l Z y bytes maxL ret ws rm as' h0 Q := by
  refine MetFree.of_bodySF hp hisR ?_
  intro p e s m args below meth c s₁ Bd hml0 hP hK
  obtain ⟨rfl, hZ, hh⟩ := hP
  exact H p e s m below meth c s₁ Bd.exec Bd.bytes hml0 (findClass_of_methodNamed Bd.named) (name_of_methodNamed Bd.named Bd.method).1 (BodyLoose.notSynchronized Bd) Bd.returns hZ (Stand.of_body Bd) (by rw [← hh, Bd.state]; rfl)
theorem own_back {Z : State} {a0 : Array Value} {h : Heap} {y : MethodName} {bytes : ByteArray} {maxL : Nat} {ret : Option FieldType} {rm : Room} {len W : Nat} {as' : Array Value} {Q : Option Value → Heap → List Loc → Prop} (hM : own_Met l Z y bytes maxL ret [] rm as' h Q)
    (hZ : Z.Warmed39 s.vm) (wc : (Jvm.Cond.code y bytes maxL ret).before a0 Z = true) (wz : (Jvm.Cond.initialized y.cls).before a0 Z = true) (hf : rm.frames + 1 ≤ R.frames) (hl : W + (maxL + 11) + rm.locals ≤ R.locals) :
    Back l R p e below s args y len W (fun A a => a = as' ∧ A.U.heap = h ∧ A.cells + rm.cells ≤ R.cells ∧ A.slots + rm.slots ≤ R.slots) (fun A _ v B => ∃ L, Q v B.U.heap L ∧ B.locs = A.locs ++ L ∧ B.cells = A.cells + rm.cells ∧ B.slots = A.slots + rm.slots) :=
  backOf (Q := Q) hM hZ wc wz hf hl
theorem own_xt {h0 h h' : Heap} (E : Ext h0 h) (F : Ext h h') : Ext h0 h' := ⟨Nat.le_trans E.1 F.1, fun a c q => F.2 a c (E.2 a c q)⟩
theorem own_xr (h : Heap) : Ext h h := ⟨Nat.le_refl _, fun _ _ q => q⟩
theorem own_xw {h0 h h' : Heap} {a : Addr} {sl : Nat} {v : Value} (E : Ext h0 h) (W : Wr h h' a sl v) (q : h0.size ≤ a) : Ext h0 h' := by
  have K := (Keep.of_wr W)
  exact ⟨Nat.le_trans E.1 K.1, fun x c r => K.2.1 x c (E.2 x c r) fun z => by
    cases List.mem_singleton.mp z
    exact absurd (Array.getElem?_eq_some_iff.mp r).1 (Nat.not_lt.mpr q)⟩
theorem own_fI {Z : State} {args : Array Value} {t : Term} {F fn fd : String} {a : Addr} {k : Int32} (ev : t.eval args Z none [] Z = some (.ref a)) (h : (Cond.eq (Term.field t F fn fd) (Term.int k)).value args Z none Z [] = some true) : Fld Z Z.heap a F fn fd (.int k) := by
  obtain ⟨x, y, h1, h2, h3, h4⟩ := cmp_v (Or.inl h)
  rw [fld_at ev] at h1
  cases (Term.int_eval k).symm.trans h2
  obtain ⟨z, rfl⟩ := h4
  have e1 : (Term.field t F fn fd).eval args Z none [] Z = some (.int z) := (fld_at ev).trans h1
  simp only [Cond.value, e1, Term.int_eval] at h
  have hz : z = k := by simpa using h
  subst hz
  exact Fld.start h1
theorem own_fJ {Z : State} {args : Array Value} {t : Term} {F fn fd : String} {a : Addr} {k : Int64} (ev : t.eval args Z none [] Z = some (.ref a)) (h : (Cond.eq (Term.field t F fn fd) (Term.long k)).value args Z none Z [] = some true) : Fld Z Z.heap a F fn fd (.long k) := by
  obtain ⟨x, y, h1, h2, h3, h4⟩ := cmp_v (Or.inl h)
  rw [fld_at ev] at h1
  cases (long_at k).symm.trans h2
  obtain ⟨z, rfl⟩ := h4
  have e1 : (Term.field t F fn fd).eval args Z none [] Z = some (.long z) := (fld_at ev).trans h1
  have hz := gotT (eq_L e1 (long_at k)) h
  subst hz
  exact Fld.start h1
theorem own_len {Z : State} {args : Array Value} {t : Term} {a : Addr} {cl : Cell} {ty : FieldType} {k : Int32} (ev : t.eval args Z none [] Z = some (.ref a)) (A : Arr Z Z.heap a cl ty) (h : (Cond.eq (Term.length t) (Term.int k)).value args Z none Z [] = some true) : cl.slots.size < 2 ^ 31 ∧ cl.slots.size.toInt32 = k := by
  have ha := Arr.fin (Vm.Alike.refl _) A
  obtain ⟨x, y, h1, h2, h3, h4⟩ := cmp_v (Or.inl h)
  by_cases hl : cl.slots.size < 2 ^ 31
  · have e1 := len_f (o := none) (idx := []) (first := Z) (args := args) ev ha hl
    simp only [Cond.value, e1, Term.int_eval] at h
    exact ⟨hl, by simpa using h⟩
  · simp [Term.eval, ev, ha, hl] at h1
theorem own_elV {Z : State} {args : Array Value} {t u : Term} {a : Addr} {cl : Cell} {k : Int32} {v : Value} {i : Nat} (ev : t.eval args Z none [] Z = some (.ref a)) (hc : Z.heap[a]? = some cl) (hu : u.eval args Z none [] Z = some v) (h : (Cond.eq (Term.elem t (Term.int k)) u).value args Z none Z [] = some true) (hk : k.toNatClampNeg = i) : cl.slots[i]? = some v := by
  obtain ⟨x, y, h1, h2, h3, h4⟩ := cmp_v (Or.inl h)
  cases hu.symm.trans h2
  have q := (elem_in h1 ev (Term.int_eval k) hc).2
  rw [hk] at q
  rw [q]
  simp only [Cond.value, h1, hu] at h
  cases x <;> cases v <;> simp_all [Kin, Value.isRef]
theorem own_ne {Z : State} {h : Heap} {a b : Addr} {C n d : String} {k j : Int32} (F : Fld Z h a C n d (.int k)) (G : Fld Z h b C n d (.int j)) (q : k ≠ j) : a ≠ b := Fld.ne F G (fun e => q (Value.int.inj e))
theorem own_rem {x n : Int32} (h0 : 0 ≤ x.toInt) (h1 : 0 < n.toInt) : 0 ≤ (x % n).toInt ∧ (x % n).toInt < n.toInt := by
  have := (c_iremV x n).1 h0 h1; exact ⟨this.1, this.2.1⟩
theorem own_msk (x : Int32) : 0 ≤ (x &&& (2147483647 : Int32)).toInt := (c_and x 2147483647 (by decide)).1
end OwnKit
def own_W (Z : State) (A : Nat → Addr) : Prop := Sta Z Z.heap "com/example/quorumhand/quorumhand/engine/BrokerState" "$VALUES" "[Lcom/example/quorumhand/quorumhand/engine/BrokerState;" (.ref (A 0)) ∧ Exa Z Z.heap (A 0) "[Lcom/example/quorumhand/quorumhand/engine/BrokerState;" ∧ Sta Z Z.heap "com/example/quorumhand/quorumhand/engine/BrokerState" "NOT_RUNNING" "Lcom/example/quorumhand/quorumhand/engine/BrokerState;" (.ref (A 1)) ∧ Exa Z Z.heap (A 1) "com/example/quorumhand/quorumhand/engine/BrokerState" ∧ Sta Z Z.heap "com/example/quorumhand/quorumhand/engine/BrokerState" "STARTING" "Lcom/example/quorumhand/quorumhand/engine/BrokerState;" (.ref (A 2)) ∧ Exa Z Z.heap (A 2) "com/example/quorumhand/quorumhand/engine/BrokerState" ∧ Sta Z Z.heap "com/example/quorumhand/quorumhand/engine/BrokerState" "RECOVERY" "Lcom/example/quorumhand/quorumhand/engine/BrokerState;" (.ref (A 3)) ∧ Exa Z Z.heap (A 3) "com/example/quorumhand/quorumhand/engine/BrokerState" ∧ Sta Z Z.heap "com/example/quorumhand/quorumhand/engine/BrokerState" "RUNNING" "Lcom/example/quorumhand/quorumhand/engine/BrokerState;" (.ref (A 4)) ∧ Exa Z Z.heap (A 4) "com/example/quorumhand/quorumhand/engine/BrokerState" ∧ Sta Z Z.heap "com/example/quorumhand/quorumhand/engine/BrokerState" "PENDING_CONTROLLED_SHUTDOWN" "Lcom/example/quorumhand/quorumhand/engine/BrokerState;" (.ref (A 5)) ∧ Exa Z Z.heap (A 5) "com/example/quorumhand/quorumhand/engine/BrokerState" ∧ Sta Z Z.heap "com/example/quorumhand/quorumhand/engine/BrokerState" "SHUTTING_DOWN" "Lcom/example/quorumhand/quorumhand/engine/BrokerState;" (.ref (A 6)) ∧ Exa Z Z.heap (A 6) "com/example/quorumhand/quorumhand/engine/BrokerState" ∧ Sta Z Z.heap "com/example/quorumhand/quorumhand/engine/BrokerState" "UNKNOWN" "Lcom/example/quorumhand/quorumhand/engine/BrokerState;" (.ref (A 7)) ∧ Exa Z Z.heap (A 7) "com/example/quorumhand/quorumhand/engine/BrokerState" ∧ (∃ k, Arv Z Z.heap (A 0) k (.object "com/example/quorumhand/quorumhand/engine/BrokerState") (7 : Int32) [(.ref (A 1)), (.ref (A 2)), (.ref (A 3)), (.ref (A 4)), (.ref (A 5)), (.ref (A 6)), (.ref (A 7))] .null) ∧ Fld Z Z.heap (A 1) "com/example/quorumhand/quorumhand/engine/BrokerState" "value" "I" (.int (0 : Int32)) ∧ Fld Z Z.heap (A 1) "java/lang/Enum" "ordinal" "I" (.int (0 : Int32)) ∧ Fld Z Z.heap (A 7) "java/lang/Enum" "ordinal" "I" (.int (6 : Int32)) ∧ Fld Z Z.heap (A 2) "com/example/quorumhand/quorumhand/engine/BrokerState" "value" "I" (.int (1 : Int32)) ∧ Fld Z Z.heap (A 3) "com/example/quorumhand/quorumhand/engine/BrokerState" "value" "I" (.int (2 : Int32)) ∧ Fld Z Z.heap (A 4) "com/example/quorumhand/quorumhand/engine/BrokerState" "value" "I" (.int (3 : Int32)) ∧ Fld Z Z.heap (A 5) "com/example/quorumhand/quorumhand/engine/BrokerState" "value" "I" (.int (6 : Int32)) ∧ Fld Z Z.heap (A 6) "com/example/quorumhand/quorumhand/engine/BrokerState" "value" "I" (.int (7 : Int32)) ∧ Fld Z Z.heap (A 7) "com/example/quorumhand/quorumhand/engine/BrokerState" "value" "I" (.int (127 : Int32)) ∧ Fld Z Z.heap (A 5) "java/lang/Enum" "ordinal" "I" (.int (4 : Int32)) ∧ Fld Z Z.heap (A 4) "java/lang/Enum" "ordinal" "I" (.int (3 : Int32)) ∧ Fld Z Z.heap (A 2) "java/lang/Enum" "ordinal" "I" (.int (1 : Int32)) ∧ Fld Z Z.heap (A 3) "java/lang/Enum" "ordinal" "I" (.int (2 : Int32)) ∧ Fld Z Z.heap (A 6) "java/lang/Enum" "ordinal" "I" (.int (5 : Int32))
theorem own_v (v : Int32) : v = (0 : Int32) ∨ v = (1 : Int32) ∨ v = (2 : Int32) ∨ v = (3 : Int32) ∨ v = (6 : Int32) ∨ v = (7 : Int32) ∨ (¬ v = (0 : Int32) ∧ ¬ v = (1 : Int32) ∧ ¬ v = (2 : Int32) ∧ ¬ v = (3 : Int32) ∧ ¬ v = (6 : Int32) ∧ ¬ v = (7 : Int32)) := by
  by_cases h0 : v = (0 : Int32)
  · exact Or.inl h0
  by_cases h1 : v = (1 : Int32)
  · exact Or.inr (Or.inl h1)
  by_cases h2 : v = (2 : Int32)
  · exact Or.inr (Or.inr (Or.inl h2))
  by_cases h3 : v = (3 : Int32)
  · exact Or.inr (Or.inr (Or.inr (Or.inl h3)))
  by_cases h6 : v = (6 : Int32)
  · exact Or.inr (Or.inr (Or.inr (Or.inr (Or.inl h6))))
  by_cases h7 : v = (7 : Int32)
  · exact Or.inr (Or.inr (Or.inr (Or.inr (Or.inr (Or.inl h7)))))
  exact Or.inr (Or.inr (Or.inr (Or.inr (Or.inr (Or.inr (⟨h0, h1, h2, h3, h6, h7⟩))))))
theorem pn_0 : plainName "com/example/quorumhand/quorumhand/engine/BrokerState" = true := by first | (simp [plainName, overriddenIn]; done) | decide +kernel
theorem ef_0 (m : MethodId)  : entryFrame m #[] 0 = mkF m 0 #[] [] := by first | (simp [entryFrame, mkF, argsToLocals, Value.category]; done) | rfl
theorem d0_0 : decode prog_4_method_1_code 0 = .ok (.getstatic 25, 3) := by decide +kernel
theorem d0_3 : decode prog_4_method_1_code 3 = .ok (.invokevirtual 29, 3) := by decide +kernel
theorem d0_6 : decode prog_4_method_1_code 6 = .ok (.checkcast 30, 3) := by decide +kernel
theorem d0_9 : decode prog_4_method_1_code 9 = .ok (.areturn, 1) := by decide +kernel
theorem ef_1 (m : MethodId) (x0 : Int32) : entryFrame m #[(.int x0)] 5 = mkF m 0 #[.val (.int x0), .unset, .unset, .unset, .unset] [] := by first | (simp [entryFrame, mkF, argsToLocals, Value.category]; done) | rfl
theorem d1_0 : decode prog_4_method_5_code 0 = .ok (.invokestatic 48, 3) := by decide +kernel
theorem pd_0 : parseMethodDescriptor "()[Lcom/example/quorumhand/quorumhand/engine/BrokerState;" = some ⟨[], some (.array (.object "com/example/quorumhand/quorumhand/engine/BrokerState"))⟩ := by decide +kernel
theorem d1_3 : decode prog_4_method_5_code 3 = .ok (.astore_n 1, 1) := by decide +kernel
theorem d1_4 : decode prog_4_method_5_code 4 = .ok (.aload_n 1, 1) := by decide +kernel
theorem d1_5 : decode prog_4_method_5_code 5 = .ok (.arraylength, 1) := by decide +kernel
theorem d1_6 : decode prog_4_method_5_code 6 = .ok (.istore_n 2, 1) := by decide +kernel
theorem d1_7 : decode prog_4_method_5_code 7 = .ok (.iconst 0, 1) := by decide +kernel
theorem d1_8 : decode prog_4_method_5_code 8 = .ok (.istore_n 3, 1) := by decide +kernel
theorem d1_9 : decode prog_4_method_5_code 9 = .ok (.iload_n 3, 1) := by decide +kernel
theorem d1_10 : decode prog_4_method_5_code 10 = .ok (.iload_n 2, 1) := by decide +kernel
theorem d1_11 : decode prog_4_method_5_code 11 = .ok (.if_icmp .ge 26, 3) := by decide +kernel
theorem d1_14 : decode prog_4_method_5_code 14 = .ok (.aload_n 1, 1) := by decide +kernel
theorem d1_15 : decode prog_4_method_5_code 15 = .ok (.iload_n 3, 1) := by decide +kernel
theorem d1_16 : decode prog_4_method_5_code 16 = .ok (.aaload, 1) := by decide +kernel
theorem d1_17 : decode prog_4_method_5_code 17 = .ok (.astore 4, 2) := by decide +kernel
theorem d1_19 : decode prog_4_method_5_code 19 = .ok (.aload 4, 2) := by decide +kernel
theorem d1_21 : decode prog_4_method_5_code 21 = .ok (.getfield 44, 3) := by decide +kernel
theorem d1_24 : decode prog_4_method_5_code 24 = .ok (.iload_n 0, 1) := by decide +kernel
theorem d1_25 : decode prog_4_method_5_code 25 = .ok (.if_icmp .ne 6, 3) := by decide +kernel
theorem d1_28 : decode prog_4_method_5_code 28 = .ok (.aload 4, 2) := by decide +kernel
theorem d1_30 : decode prog_4_method_5_code 30 = .ok (.areturn, 1) := by decide +kernel
theorem d1_31 : decode prog_4_method_5_code 31 = .ok (.iinc 3 1, 3) := by decide +kernel
theorem d1_34 : decode prog_4_method_5_code 34 = .ok (.goto (-25), 3) := by decide +kernel
theorem d1_37 : decode prog_4_method_5_code 37 = .ok (.getstatic 22, 3) := by decide +kernel
theorem d1_40 : decode prog_4_method_5_code 40 = .ok (.areturn, 1) := by decide +kernel
theorem pn_1 : plainName "com/example/quorumhand/quorumhand/engine/BrokerStateOfPinLaw" = true := by first | (simp [plainName, overriddenIn]; done) | decide +kernel
theorem ef_2 (m : MethodId) (x0 : Int32) (x1 : Int32) : entryFrame m #[(.int x0), (.int x1)] maxLocals = mkF m 0 #[.val (.int x0), .val (.int x1), .unset, .unset] [] := by first | (simp [entryFrame, mkF, argsToLocals, Value.category, maxLocals]; done) | rfl
theorem pd_1 : parseMethodDescriptor "(I)Lcom/example/quorumhand/quorumhand/engine/BrokerState;" = some ⟨[.int], some (.object "com/example/quorumhand/quorumhand/engine/BrokerState")⟩ := by decide +kernel
theorem ef_3 (m : MethodId) (x0 : Int32) : entryFrame m #[(.int x0)] 1 = mkF m 0 #[.val (.int x0)] [] := by first | (simp [entryFrame, mkF, argsToLocals, Value.category]; done) | rfl
theorem d3_0 : decode method_2_code 0 = .ok (.iload_n 0, 1) := by decide +kernel
theorem d3_1 : decode method_2_code 1 = .ok (.ifCond .ne 7, 3) := by decide +kernel
theorem d3_4 : decode method_2_code 4 = .ok (.getstatic 7, 3) := by decide +kernel
theorem d3_7 : decode method_2_code 7 = .ok (.areturn, 1) := by decide +kernel
theorem ef_4 (m : MethodId) (x0 : Addr) : entryFrame m #[(.ref x0)] 1 = mkF m 0 #[.val (.ref x0)] [] := by first | (simp [entryFrame, mkF, argsToLocals, Value.category]; done) | rfl
theorem d4_0 : decode prog_4_method_4_code 0 = .ok (.aload_n 0, 1) := by decide +kernel
theorem d4_1 : decode prog_4_method_4_code 1 = .ok (.getfield 44, 3) := by decide +kernel
theorem d4_4 : decode prog_4_method_4_code 4 = .ok (.ireturn, 1) := by decide +kernel
theorem pd_2 : parseMethodDescriptor "()I" = some ⟨[], some .int⟩ := by decide +kernel
theorem d3_8 : decode method_2_code 8 = .ok (.iload_n 0, 1) := by decide +kernel
theorem d3_9 : decode method_2_code 9 = .ok (.iconst 1, 1) := by decide +kernel
theorem d3_10 : decode method_2_code 10 = .ok (.if_icmp .ne 7, 3) := by decide +kernel
theorem d3_13 : decode method_2_code 13 = .ok (.getstatic 13, 3) := by decide +kernel
theorem d3_16 : decode method_2_code 16 = .ok (.areturn, 1) := by decide +kernel
theorem d3_17 : decode method_2_code 17 = .ok (.iload_n 0, 1) := by decide +kernel
theorem d3_18 : decode method_2_code 18 = .ok (.iconst 2, 1) := by decide +kernel
theorem d3_19 : decode method_2_code 19 = .ok (.if_icmp .ne 7, 3) := by decide +kernel
theorem d3_22 : decode method_2_code 22 = .ok (.getstatic 16, 3) := by decide +kernel
theorem d3_25 : decode method_2_code 25 = .ok (.areturn, 1) := by decide +kernel
theorem d3_26 : decode method_2_code 26 = .ok (.iload_n 0, 1) := by decide +kernel
theorem d3_27 : decode method_2_code 27 = .ok (.iconst 3, 1) := by decide +kernel
theorem d3_28 : decode method_2_code 28 = .ok (.if_icmp .ne 7, 3) := by decide +kernel
theorem d3_31 : decode method_2_code 31 = .ok (.getstatic 19, 3) := by decide +kernel
theorem d3_34 : decode method_2_code 34 = .ok (.areturn, 1) := by decide +kernel
theorem d3_35 : decode method_2_code 35 = .ok (.iload_n 0, 1) := by decide +kernel
theorem d3_36 : decode method_2_code 36 = .ok (.bipush 6, 2) := by decide +kernel
theorem d3_38 : decode method_2_code 38 = .ok (.if_icmp .ne 7, 3) := by decide +kernel
theorem d3_41 : decode method_2_code 41 = .ok (.getstatic 22, 3) := by decide +kernel
theorem d3_44 : decode method_2_code 44 = .ok (.areturn, 1) := by decide +kernel
theorem d3_45 : decode method_2_code 45 = .ok (.iload_n 0, 1) := by decide +kernel
theorem d3_46 : decode method_2_code 46 = .ok (.bipush 7, 2) := by decide +kernel
theorem d3_48 : decode method_2_code 48 = .ok (.if_icmp .ne 7, 3) := by decide +kernel
theorem d3_51 : decode method_2_code 51 = .ok (.getstatic 25, 3) := by decide +kernel
theorem d3_54 : decode method_2_code 54 = .ok (.areturn, 1) := by decide +kernel
theorem d3_55 : decode method_2_code 55 = .ok (.getstatic 28, 3) := by decide +kernel
theorem d3_58 : decode method_2_code 58 = .ok (.areturn, 1) := by decide +kernel
set_option maxRecDepth 65536 in
set_option maxHeartbeats 40000000 in
theorem rmV (l : Launch) (Z : State) (a0 : Array Value) (hw : ∀ d ∈ tables_1, d.before a0 Z = true) (ws : List Jvm.Cond) (A : Nat → Addr) (hW : own_W Z A) (h0 : Heap) (x0 : Ext Z.heap h0)  :
    own_Met l Z (⟨"com/example/quorumhand/quorumhand/engine/BrokerState", "values", "()[Lcom/example/quorumhand/quorumhand/engine/BrokerState;"⟩ : MethodName) prog_4_method_1_code 0 (some (.array (.object "com/example/quorumhand/quorumhand/engine/BrokerState"))) ws ({ frames := 1, cells := 1, slots := 7, locals := 14 } : Room) #[] h0 (fun v_ h_ L_ => ∃ (b : Addr) (k : ClassId), v_ = some (.ref b) ∧ Fr Z.heap.size L_ ∧ Ext h0 h_ ∧ Arv Z h_ b k (.object "com/example/quorumhand/quorumhand/engine/BrokerState") (7 : Int32) [.ref (A 1), .ref (A 2), .ref (A 3), .ref (A 4), .ref (A 5), .ref (A 6), .ref (A 7)] .null) := by
  refine own_body (plainFor_of_name pn_0) fun p e s m below meth c s₁ hx hby hml hown hnm hlk hrt hZ X0 e0 => ?_
  have N0 := Fr.nil Z.heap.size
  have hW' := hW
  obtain ⟨S__VALUES, E__VALUES, -, -, -, -, -, -, -, -, -, -, -, -, -, -, V__VALUES, -, -, -, -, -, -, -, -, -, -, -, -, -, -⟩ := hW'
  refine own_go (B := s₁.setTop (mkF m 0 #[] [])) (fun t k => castTop (ef_0 m ) k) ?_
  obtain ⟨T1, X1, e1, st1⟩ := getS2 X0 hx hZ hown (host := "") (Or.inl (hw _ (List.mem_of_getElem? (i := 7) rfl))) Via.refl e0 (S__VALUES.ext x0) (g := (mkF m 0 #[] [])) rfl (hb hby d0_0)
  refine own_go (B := T1.setTop (mkF m 3 #[] [(.ref (A 0))])) st1 ?_
  obtain ⟨kc, Vc⟩ := V__VALUES
  obtain ⟨T2, h2, X2, e2, E2, V2, A2, st2⟩ := cloneH X1 hx hZ hown (hw _ (List.mem_of_getElem? (i := 9) rfl)) (hw _ (List.mem_of_getElem? (i := 10) rfl)) (hw _ (List.mem_of_getElem? (i := 14) rfl)) (hw _ (List.mem_of_getElem? (i := 12) rfl)) (hw _ (List.mem_of_getElem? (i := 13) rfl)) (hw _ (List.mem_of_getElem? (i := 15) rfl)) e1 (Arv.arh (Vc.ext x0)) (E__VALUES.ext x0) (g := (mkF m 3 #[] [(.ref (A 0))])) rfl (by rw [hml]; rfl) rfl (hb hby d0_3) (by decide) (W := 0) (cap := 7) (by show 2 * 0 + _ ≤ _; exact Nat.le_of_eq rfl) (by decide) (by decide) (by decide) (by decide)
  obtain ⟨b2, g2⟩ : ∃ z, z = h0.size := ⟨_, rfl⟩
  rw [← g2] at A2 V2 st2
  have x2 : Ext Z.heap h2 := own_xt x0 E2
  have q2 : Z.heap.size ≤ b2 := Nat.le_trans x0.1 (Nat.le_of_eq g2.symm)
  refine own_go (B := T2.setTop (mkF m 6 #[] [(.ref b2)])) st2 ?_
  obtain ⟨T4, X4, e4, st4⟩ := castY X2 hx hZ hown (hw _ (List.mem_of_getElem? (i := 24) rfl)) e2 (Ins.self A2) (g := (mkF m 6 #[] [(.ref b2)])) rfl rfl (hb hby d0_6)
  refine own_go (B := T4.setTop (mkF m 9 #[] [(.ref b2)])) st4 ?_
  exact own_ret X4 hx (t := (.array (.object "com/example/quorumhand/quorumhand/engine/BrokerState"))) hrt rfl (Or.inr (Or.inr (Or.inr (Or.inr ⟨rfl, rfl, rfl⟩)))) (hb hby d0_9) hlk ⟨b2, kc, rfl, N0, by rw [e4]; exact E2, by rw [e4]; exact V2⟩ (by decide) (by decide)
set_option maxRecDepth 65536 in
set_option maxHeartbeats 40000000 in
theorem rmO0 (l : Launch) (Z : State) (a0 : Array Value) (hw : ∀ d ∈ tables_1, d.before a0 Z = true) (ws : List Jvm.Cond) (A : Nat → Addr) (hW : own_W Z A) (h0 : Heap) (x0 : Ext Z.heap h0)  :
    own_Met l Z (⟨"com/example/quorumhand/quorumhand/engine/BrokerState", "of", "(I)Lcom/example/quorumhand/quorumhand/engine/BrokerState;"⟩ : MethodName) prog_4_method_5_code 5 (some (.object "com/example/quorumhand/quorumhand/engine/BrokerState")) ws ({ frames := 2, cells := 1, slots := 7, locals := 25 } : Room) #[(.int (0 : Int32))] h0 (fun v_ h_ L_ => v_ = some (.ref (A 1)) ∧ Fr Z.heap.size L_ ∧ Ext h0 h_) := by
  refine own_body (plainFor_of_name pn_0) fun p e s m below meth c s₁ hx hby hml hown hnm hlk hrt hZ X0 e0 => ?_
  have N0 := Fr.nil Z.heap.size
  have hW' := hW
  obtain ⟨-, -, -, -, -, -, -, -, -, -, -, -, -, -, -, -, -, F_NOT_RUNNING_value, -, -, -, -, -, -, -, -, -, -, -, -, -⟩ := hW'
  refine own_go (B := s₁.setTop (mkF m 0 #[.val (.int (0 : Int32)), .unset, .unset, .unset, .unset] [])) (fun t k => castTop (ef_1 m (0 : Int32)) k) ?_
  obtain ⟨_, _, ⟨T1, L1, k1, n1⟩, -, X1, ⟨Lc1, hQ1, l1, y1, z1⟩, st1⟩ := Jvm.LawKit.callS X0 hx (y := (⟨"com/example/quorumhand/quorumhand/engine/BrokerState", "values", "()[Lcom/example/quorumhand/quorumhand/engine/BrokerState;"⟩ : MethodName)) hown (mvT hZ (hw _ (List.mem_of_getElem? (i := 4) rfl))) (mvT hZ (hw _ (List.mem_of_getElem? (i := 5) rfl))) (mvT hZ (hw _ (List.mem_of_getElem? (i := 2) rfl))) (mvT hZ (hw _ (List.mem_of_getElem? (i := 6) rfl))) (by decide) (own_back (W := 0) (rmV l Z a0 hw [] A hW h0 x0) hZ (hw _ (List.mem_of_getElem? (i := 6) rfl)) (hw _ (List.mem_of_getElem? (i := 2) rfl)) (by decide) (by decide)) (g := (mkF m 0 #[.val (.int (0 : Int32)), .unset, .unset, .unset, .unset] [])) rfl (by rw [hml]; rfl) (argsL := []) (rest := []) (lenOf pd_0 rfl) rfl (by show 2 * 0 + _ ≤ _; exact Nat.le_of_eq rfl) (hb hby d1_0) (fun _ _ => ⟨rfl, e0, (by decide : 0 + 1 ≤ _), (by decide : 0 + 7 ≤ _)⟩)
  dsimp only [Pt.U, Pt.locs, Pt.cells, Pt.slots] at X1 l1 y1 z1 st1 hQ1
  subst l1 y1 z1
  obtain ⟨b1, k1', rfl, N1q, E1, V1⟩ := hQ1
  have N1 := Fr.app N0 N1q
  have x1 : Ext Z.heap T1.heap := own_xt x0 E1
  refine own_go (B := T1.setTop (mkF m 3 #[.val (.int (0 : Int32)), .unset, .unset, .unset, .unset] [(.ref b1)])) st1 ?_
  refine own_go (B := T1.setTop (mkF m 4 #[.val (.int (0 : Int32)), .val (.ref b1), .unset, .unset, .unset] [])) (fun _ k => XS.astoreN X1.here hx rfl (hb hby d1_3) rfl rfl (l' := #[.val (.int (0 : Int32)), .val (.ref b1), .unset, .unset, .unset]) rfl k) ?_
  refine own_go (B := T1.setTop (mkF m 5 #[.val (.int (0 : Int32)), .val (.ref b1), .unset, .unset, .unset] [(.ref b1)])) (fun _ k => XS.aloadN X1.here hx rfl (hb hby d1_4) rfl rfl k) ?_
  obtain ⟨cl2, Ar2, q2a, q2b, q2c, q2d, q2e⟩ := id V1
  refine own_go (B := T1.setTop (mkF m 6 #[.val (.int (0 : Int32)), .val (.ref b1), .unset, .unset, .unset] [(.int (7 : Int32))])) (fun _ k => X1.arraylength hx Ar2.1 (State.isArrayOf_alike hZ.alike Ar2.2.1) (g := (mkF m 5 #[.val (.int (0 : Int32)), .val (.ref b1), .unset, .unset, .unset] [(.ref b1)])) rfl rfl (hb hby d1_5) _ (by rw [len_of q2b q2c]; exact k)) ?_
  refine own_go (B := T1.setTop (mkF m 7 #[.val (.int (0 : Int32)), .val (.ref b1), .val (.int (7 : Int32)), .unset, .unset] [])) (fun _ k => XS.istoreN X1.here hx rfl (hb hby d1_6) rfl (l' := #[.val (.int (0 : Int32)), .val (.ref b1), .val (.int (7 : Int32)), .unset, .unset]) rfl k) ?_
  refine own_go (B := T1.setTop (mkF m 8 #[.val (.int (0 : Int32)), .val (.ref b1), .val (.int (7 : Int32)), .unset, .unset] [(.int (0 : Int32))])) (fun _ k => XT.iconstV X1.here hx rfl (0 : Int32) (hb hby d1_7) rfl k) ?_
  refine own_go (B := T1.setTop (mkF m 9 #[.val (.int (0 : Int32)), .val (.ref b1), .val (.int (7 : Int32)), .val (.int (0 : Int32)), .unset] [])) (fun _ k => XS.istoreN X1.here hx rfl (hb hby d1_8) rfl (l' := #[.val (.int (0 : Int32)), .val (.ref b1), .val (.int (7 : Int32)), .val (.int (0 : Int32)), .unset]) rfl k) ?_
  refine own_go (B := T1.setTop (mkF m 10 #[.val (.int (0 : Int32)), .val (.ref b1), .val (.int (7 : Int32)), .val (.int (0 : Int32)), .unset] [(.int (0 : Int32))])) (fun _ k => XS.iloadN X1.here hx rfl (hb hby d1_9) rfl k) ?_
  refine own_go (B := T1.setTop (mkF m 11 #[.val (.int (0 : Int32)), .val (.ref b1), .val (.int (7 : Int32)), .val (.int (0 : Int32)), .unset] [(.int (7 : Int32)), (.int (0 : Int32))])) (fun _ k => XS.iloadN X1.here hx rfl (hb hby d1_10) rfl k) ?_
  refine own_go (B := T1.setTop (mkF m 14 #[.val (.int (0 : Int32)), .val (.ref b1), .val (.int (7 : Int32)), .val (.int (0 : Int32)), .unset] [])) (fun _ k => XS.icmpNo X1.here hx rfl (hb hby d1_11) rfl (by decide) k) ?_
  refine own_go (B := T1.setTop (mkF m 15 #[.val (.int (0 : Int32)), .val (.ref b1), .val (.int (7 : Int32)), .val (.int (0 : Int32)), .unset] [(.ref b1)])) (fun _ k => XS.aloadN X1.here hx rfl (hb hby d1_14) rfl rfl k) ?_
  refine own_go (B := T1.setTop (mkF m 16 #[.val (.int (0 : Int32)), .val (.ref b1), .val (.int (7 : Int32)), .val (.int (0 : Int32)), .unset] [(.int (0 : Int32)), (.ref b1)])) (fun _ k => XS.iloadN X1.here hx rfl (hb hby d1_15) rfl k) ?_
  obtain ⟨cl3, Ar3, q3a, q3b, q3c, q3d, q3e⟩ := id V1
  have i3 := inb_of (j := (0 : Int32)) q3b ⟨by decide, by decide⟩
  refine own_go (B := T1.setTop (mkF m 17 #[.val (.int (0 : Int32)), .val (.ref b1), .val (.int (7 : Int32)), .val (.int (0 : Int32)), .unset] [(.ref (A 1))])) (fun _ k => X1.aaload hx (j := (0 : Int32)) (v := (.ref (A 1))) Ar3.1 (State.isArrayOf_alike hZ.alike Ar3.2.1) rfl Ar3.2.2 i3 (Has.at q3d i3 rfl) (g := (mkF m 16 #[.val (.int (0 : Int32)), .val (.ref b1), .val (.int (7 : Int32)), .val (.int (0 : Int32)), .unset] [(.int (0 : Int32)), (.ref b1)])) rfl rfl (hb hby d1_16) _ k) ?_
  refine own_go (B := T1.setTop (mkF m 19 #[.val (.int (0 : Int32)), .val (.ref b1), .val (.int (7 : Int32)), .val (.int (0 : Int32)), .val (.ref (A 1))] [])) (fun _ k => XS.astore X1.here hx rfl (hb hby d1_17) rfl rfl (l' := #[.val (.int (0 : Int32)), .val (.ref b1), .val (.int (7 : Int32)), .val (.int (0 : Int32)), .val (.ref (A 1))]) rfl k) ?_
  refine own_go (B := T1.setTop (mkF m 21 #[.val (.int (0 : Int32)), .val (.ref b1), .val (.int (7 : Int32)), .val (.int (0 : Int32)), .val (.ref (A 1))] [(.ref (A 1))])) (fun _ k => XS.aload X1.here hx rfl (hb hby d1_19) rfl rfl k) ?_
  obtain ⟨T4, X4, e4, st4⟩ := getF X1 hx hZ hown (host := "") (Or.inl (hw _ (List.mem_of_getElem? (i := 26) rfl))) Via.refl rfl (F_NOT_RUNNING_value.ext x1) (g := (mkF m 21 #[.val (.int (0 : Int32)), .val (.ref b1), .val (.int (7 : Int32)), .val (.int (0 : Int32)), .val (.ref (A 1))] [(.ref (A 1))])) rfl rfl (hb hby d1_21)
  refine own_go (B := T4.setTop (mkF m 24 #[.val (.int (0 : Int32)), .val (.ref b1), .val (.int (7 : Int32)), .val (.int (0 : Int32)), .val (.ref (A 1))] [(.int (0 : Int32))])) st4 ?_
  refine own_go (B := T4.setTop (mkF m 25 #[.val (.int (0 : Int32)), .val (.ref b1), .val (.int (7 : Int32)), .val (.int (0 : Int32)), .val (.ref (A 1))] [(.int (0 : Int32)), (.int (0 : Int32))])) (fun _ k => XS.iloadN X4.here hx rfl (hb hby d1_24) rfl k) ?_
  refine own_go (B := T4.setTop (mkF m 28 #[.val (.int (0 : Int32)), .val (.ref b1), .val (.int (7 : Int32)), .val (.int (0 : Int32)), .val (.ref (A 1))] [])) (fun _ k => XS.icmpNo X4.here hx rfl (hb hby d1_25) rfl (by decide) k) ?_
  refine own_go (B := T4.setTop (mkF m 30 #[.val (.int (0 : Int32)), .val (.ref b1), .val (.int (7 : Int32)), .val (.int (0 : Int32)), .val (.ref (A 1))] [(.ref (A 1))])) (fun _ k => XS.aload X4.here hx rfl (hb hby d1_28) rfl rfl k) ?_
  exact own_ret X4 hx (t := (.object "com/example/quorumhand/quorumhand/engine/BrokerState")) hrt rfl (Or.inr (Or.inr (Or.inr (Or.inr ⟨rfl, rfl, rfl⟩)))) (hb hby d1_30) hlk ⟨rfl, N1, by rw [e4]; exact E1⟩ (by decide) (by decide)
set_option maxRecDepth 65536 in
set_option maxHeartbeats 40000000 in
theorem rmO1 (l : Launch) (Z : State) (a0 : Array Value) (hw : ∀ d ∈ tables_1, d.before a0 Z = true) (ws : List Jvm.Cond) (A : Nat → Addr) (hW : own_W Z A) (h0 : Heap) (x0 : Ext Z.heap h0)  :
    own_Met l Z (⟨"com/example/quorumhand/quorumhand/engine/BrokerState", "of", "(I)Lcom/example/quorumhand/quorumhand/engine/BrokerState;"⟩ : MethodName) prog_4_method_5_code 5 (some (.object "com/example/quorumhand/quorumhand/engine/BrokerState")) ws ({ frames := 2, cells := 1, slots := 7, locals := 25 } : Room) #[(.int (1 : Int32))] h0 (fun v_ h_ L_ => v_ = some (.ref (A 2)) ∧ Fr Z.heap.size L_ ∧ Ext h0 h_) := by
  refine own_body (plainFor_of_name pn_0) fun p e s m below meth c s₁ hx hby hml hown hnm hlk hrt hZ X0 e0 => ?_
  have N0 := Fr.nil Z.heap.size
  have hW' := hW
  obtain ⟨-, -, -, -, -, -, -, -, -, -, -, -, -, -, -, -, -, F_NOT_RUNNING_value, -, -, F_STARTING_value, -, -, -, -, -, -, -, -, -, -⟩ := hW'
  refine own_go (B := s₁.setTop (mkF m 0 #[.val (.int (1 : Int32)), .unset, .unset, .unset, .unset] [])) (fun t k => castTop (ef_1 m (1 : Int32)) k) ?_
  obtain ⟨_, _, ⟨T1, L1, k1, n1⟩, -, X1, ⟨Lc1, hQ1, l1, y1, z1⟩, st1⟩ := Jvm.LawKit.callS X0 hx (y := (⟨"com/example/quorumhand/quorumhand/engine/BrokerState", "values", "()[Lcom/example/quorumhand/quorumhand/engine/BrokerState;"⟩ : MethodName)) hown (mvT hZ (hw _ (List.mem_of_getElem? (i := 4) rfl))) (mvT hZ (hw _ (List.mem_of_getElem? (i := 5) rfl))) (mvT hZ (hw _ (List.mem_of_getElem? (i := 2) rfl))) (mvT hZ (hw _ (List.mem_of_getElem? (i := 6) rfl))) (by decide) (own_back (W := 0) (rmV l Z a0 hw [] A hW h0 x0) hZ (hw _ (List.mem_of_getElem? (i := 6) rfl)) (hw _ (List.mem_of_getElem? (i := 2) rfl)) (by decide) (by decide)) (g := (mkF m 0 #[.val (.int (1 : Int32)), .unset, .unset, .unset, .unset] [])) rfl (by rw [hml]; rfl) (argsL := []) (rest := []) (lenOf pd_0 rfl) rfl (by show 2 * 0 + _ ≤ _; exact Nat.le_of_eq rfl) (hb hby d1_0) (fun _ _ => ⟨rfl, e0, (by decide : 0 + 1 ≤ _), (by decide : 0 + 7 ≤ _)⟩)
  dsimp only [Pt.U, Pt.locs, Pt.cells, Pt.slots] at X1 l1 y1 z1 st1 hQ1
  subst l1 y1 z1
  obtain ⟨b1, k1', rfl, N1q, E1, V1⟩ := hQ1
  have N1 := Fr.app N0 N1q
  have x1 : Ext Z.heap T1.heap := own_xt x0 E1
  refine own_go (B := T1.setTop (mkF m 3 #[.val (.int (1 : Int32)), .unset, .unset, .unset, .unset] [(.ref b1)])) st1 ?_
  refine own_go (B := T1.setTop (mkF m 4 #[.val (.int (1 : Int32)), .val (.ref b1), .unset, .unset, .unset] [])) (fun _ k => XS.astoreN X1.here hx rfl (hb hby d1_3) rfl rfl (l' := #[.val (.int (1 : Int32)), .val (.ref b1), .unset, .unset, .unset]) rfl k) ?_
  refine own_go (B := T1.setTop (mkF m 5 #[.val (.int (1 : Int32)), .val (.ref b1), .unset, .unset, .unset] [(.ref b1)])) (fun _ k => XS.aloadN X1.here hx rfl (hb hby d1_4) rfl rfl k) ?_
  obtain ⟨cl2, Ar2, q2a, q2b, q2c, q2d, q2e⟩ := id V1
  refine own_go (B := T1.setTop (mkF m 6 #[.val (.int (1 : Int32)), .val (.ref b1), .unset, .unset, .unset] [(.int (7 : Int32))])) (fun _ k => X1.arraylength hx Ar2.1 (State.isArrayOf_alike hZ.alike Ar2.2.1) (g := (mkF m 5 #[.val (.int (1 : Int32)), .val (.ref b1), .unset, .unset, .unset] [(.ref b1)])) rfl rfl (hb hby d1_5) _ (by rw [len_of q2b q2c]; exact k)) ?_
  refine own_go (B := T1.setTop (mkF m 7 #[.val (.int (1 : Int32)), .val (.ref b1), .val (.int (7 : Int32)), .unset, .unset] [])) (fun _ k => XS.istoreN X1.here hx rfl (hb hby d1_6) rfl (l' := #[.val (.int (1 : Int32)), .val (.ref b1), .val (.int (7 : Int32)), .unset, .unset]) rfl k) ?_
  refine own_go (B := T1.setTop (mkF m 8 #[.val (.int (1 : Int32)), .val (.ref b1), .val (.int (7 : Int32)), .unset, .unset] [(.int (0 : Int32))])) (fun _ k => XT.iconstV X1.here hx rfl (0 : Int32) (hb hby d1_7) rfl k) ?_
  refine own_go (B := T1.setTop (mkF m 9 #[.val (.int (1 : Int32)), .val (.ref b1), .val (.int (7 : Int32)), .val (.int (0 : Int32)), .unset] [])) (fun _ k => XS.istoreN X1.here hx rfl (hb hby d1_8) rfl (l' := #[.val (.int (1 : Int32)), .val (.ref b1), .val (.int (7 : Int32)), .val (.int (0 : Int32)), .unset]) rfl k) ?_
  refine own_go (B := T1.setTop (mkF m 10 #[.val (.int (1 : Int32)), .val (.ref b1), .val (.int (7 : Int32)), .val (.int (0 : Int32)), .unset] [(.int (0 : Int32))])) (fun _ k => XS.iloadN X1.here hx rfl (hb hby d1_9) rfl k) ?_
  refine own_go (B := T1.setTop (mkF m 11 #[.val (.int (1 : Int32)), .val (.ref b1), .val (.int (7 : Int32)), .val (.int (0 : Int32)), .unset] [(.int (7 : Int32)), (.int (0 : Int32))])) (fun _ k => XS.iloadN X1.here hx rfl (hb hby d1_10) rfl k) ?_
  refine own_go (B := T1.setTop (mkF m 14 #[.val (.int (1 : Int32)), .val (.ref b1), .val (.int (7 : Int32)), .val (.int (0 : Int32)), .unset] [])) (fun _ k => XS.icmpNo X1.here hx rfl (hb hby d1_11) rfl (by decide) k) ?_
  refine own_go (B := T1.setTop (mkF m 15 #[.val (.int (1 : Int32)), .val (.ref b1), .val (.int (7 : Int32)), .val (.int (0 : Int32)), .unset] [(.ref b1)])) (fun _ k => XS.aloadN X1.here hx rfl (hb hby d1_14) rfl rfl k) ?_
  refine own_go (B := T1.setTop (mkF m 16 #[.val (.int (1 : Int32)), .val (.ref b1), .val (.int (7 : Int32)), .val (.int (0 : Int32)), .unset] [(.int (0 : Int32)), (.ref b1)])) (fun _ k => XS.iloadN X1.here hx rfl (hb hby d1_15) rfl k) ?_
  obtain ⟨cl3, Ar3, q3a, q3b, q3c, q3d, q3e⟩ := id V1
  have i3 := inb_of (j := (0 : Int32)) q3b ⟨by decide, by decide⟩
  refine own_go (B := T1.setTop (mkF m 17 #[.val (.int (1 : Int32)), .val (.ref b1), .val (.int (7 : Int32)), .val (.int (0 : Int32)), .unset] [(.ref (A 1))])) (fun _ k => X1.aaload hx (j := (0 : Int32)) (v := (.ref (A 1))) Ar3.1 (State.isArrayOf_alike hZ.alike Ar3.2.1) rfl Ar3.2.2 i3 (Has.at q3d i3 rfl) (g := (mkF m 16 #[.val (.int (1 : Int32)), .val (.ref b1), .val (.int (7 : Int32)), .val (.int (0 : Int32)), .unset] [(.int (0 : Int32)), (.ref b1)])) rfl rfl (hb hby d1_16) _ k) ?_
  refine own_go (B := T1.setTop (mkF m 19 #[.val (.int (1 : Int32)), .val (.ref b1), .val (.int (7 : Int32)), .val (.int (0 : Int32)), .val (.ref (A 1))] [])) (fun _ k => XS.astore X1.here hx rfl (hb hby d1_17) rfl rfl (l' := #[.val (.int (1 : Int32)), .val (.ref b1), .val (.int (7 : Int32)), .val (.int (0 : Int32)), .val (.ref (A 1))]) rfl k) ?_
  refine own_go (B := T1.setTop (mkF m 21 #[.val (.int (1 : Int32)), .val (.ref b1), .val (.int (7 : Int32)), .val (.int (0 : Int32)), .val (.ref (A 1))] [(.ref (A 1))])) (fun _ k => XS.aload X1.here hx rfl (hb hby d1_19) rfl rfl k) ?_
  obtain ⟨T4, X4, e4, st4⟩ := getF X1 hx hZ hown (host := "") (Or.inl (hw _ (List.mem_of_getElem? (i := 26) rfl))) Via.refl rfl (F_NOT_RUNNING_value.ext x1) (g := (mkF m 21 #[.val (.int (1 : Int32)), .val (.ref b1), .val (.int (7 : Int32)), .val (.int (0 : Int32)), .val (.ref (A 1))] [(.ref (A 1))])) rfl rfl (hb hby d1_21)
  refine own_go (B := T4.setTop (mkF m 24 #[.val (.int (1 : Int32)), .val (.ref b1), .val (.int (7 : Int32)), .val (.int (0 : Int32)), .val (.ref (A 1))] [(.int (0 : Int32))])) st4 ?_
  refine own_go (B := T4.setTop (mkF m 25 #[.val (.int (1 : Int32)), .val (.ref b1), .val (.int (7 : Int32)), .val (.int (0 : Int32)), .val (.ref (A 1))] [(.int (1 : Int32)), (.int (0 : Int32))])) (fun _ k => XS.iloadN X4.here hx rfl (hb hby d1_24) rfl k) ?_
  refine own_go (B := T4.setTop (mkF m 31 #[.val (.int (1 : Int32)), .val (.ref b1), .val (.int (7 : Int32)), .val (.int (0 : Int32)), .val (.ref (A 1))] [])) (fun _ k => XS.icmpYes X4.here hx rfl (pc0 := 25) (pc' := 31) rfl (hb hby d1_25) rfl (by decide) (by decide) (by decide) k) ?_
  refine own_go (B := T4.setTop (mkF m 34 #[.val (.int (1 : Int32)), .val (.ref b1), .val (.int (7 : Int32)), .val (.int ((0 : Int32) + (1 : Int32))), .val (.ref (A 1))] [])) (fun _ k => XT.iincV X4.here hx rfl (1 : Int32) (hb hby d1_31) rfl rfl (l' := #[.val (.int (1 : Int32)), .val (.ref b1), .val (.int (7 : Int32)), .val (.int ((0 : Int32) + (1 : Int32))), .val (.ref (A 1))]) rfl k) ?_
  rw [(by decide +kernel : ((0 : Int32) + (1 : Int32)) = (1 : Int32))]
  refine own_go (B := T4.setTop (mkF m 9 #[.val (.int (1 : Int32)), .val (.ref b1), .val (.int (7 : Int32)), .val (.int (1 : Int32)), .val (.ref (A 1))] [])) (fun _ k => XS.goto X4.here hx rfl (pc0 := 34) (pc' := 9) rfl (hb hby d1_34) (by decide) (by decide) k) ?_
  refine own_go (B := T4.setTop (mkF m 10 #[.val (.int (1 : Int32)), .val (.ref b1), .val (.int (7 : Int32)), .val (.int (1 : Int32)), .val (.ref (A 1))] [(.int (1 : Int32))])) (fun _ k => XS.iloadN X4.here hx rfl (hb hby d1_9) rfl k) ?_
  refine own_go (B := T4.setTop (mkF m 11 #[.val (.int (1 : Int32)), .val (.ref b1), .val (.int (7 : Int32)), .val (.int (1 : Int32)), .val (.ref (A 1))] [(.int (7 : Int32)), (.int (1 : Int32))])) (fun _ k => XS.iloadN X4.here hx rfl (hb hby d1_10) rfl k) ?_
  refine own_go (B := T4.setTop (mkF m 14 #[.val (.int (1 : Int32)), .val (.ref b1), .val (.int (7 : Int32)), .val (.int (1 : Int32)), .val (.ref (A 1))] [])) (fun _ k => XS.icmpNo X4.here hx rfl (hb hby d1_11) rfl (by decide) k) ?_
  refine own_go (B := T4.setTop (mkF m 15 #[.val (.int (1 : Int32)), .val (.ref b1), .val (.int (7 : Int32)), .val (.int (1 : Int32)), .val (.ref (A 1))] [(.ref b1)])) (fun _ k => XS.aloadN X4.here hx rfl (hb hby d1_14) rfl rfl k) ?_
  refine own_go (B := T4.setTop (mkF m 16 #[.val (.int (1 : Int32)), .val (.ref b1), .val (.int (7 : Int32)), .val (.int (1 : Int32)), .val (.ref (A 1))] [(.int (1 : Int32)), (.ref b1)])) (fun _ k => XS.iloadN X4.here hx rfl (hb hby d1_15) rfl k) ?_
  obtain ⟨cl5, Ar5, q5a, q5b, q5c, q5d, q5e⟩ := id V1
  have i5 := inb_of (j := (1 : Int32)) q5b ⟨by decide, by decide⟩
  refine own_go (B := T4.setTop (mkF m 17 #[.val (.int (1 : Int32)), .val (.ref b1), .val (.int (7 : Int32)), .val (.int (1 : Int32)), .val (.ref (A 1))] [(.ref (A 2))])) (fun _ k => X4.aaload hx (j := (1 : Int32)) (v := (.ref (A 2))) (by rw [e4]; exact Ar5.1) (State.isArrayOf_alike hZ.alike Ar5.2.1) rfl Ar5.2.2 i5 (Has.at q5d i5 rfl) (g := (mkF m 16 #[.val (.int (1 : Int32)), .val (.ref b1), .val (.int (7 : Int32)), .val (.int (1 : Int32)), .val (.ref (A 1))] [(.int (1 : Int32)), (.ref b1)])) rfl rfl (hb hby d1_16) _ k) ?_
  refine own_go (B := T4.setTop (mkF m 19 #[.val (.int (1 : Int32)), .val (.ref b1), .val (.int (7 : Int32)), .val (.int (1 : Int32)), .val (.ref (A 2))] [])) (fun _ k => XS.astore X4.here hx rfl (hb hby d1_17) rfl rfl (l' := #[.val (.int (1 : Int32)), .val (.ref b1), .val (.int (7 : Int32)), .val (.int (1 : Int32)), .val (.ref (A 2))]) rfl k) ?_
  refine own_go (B := T4.setTop (mkF m 21 #[.val (.int (1 : Int32)), .val (.ref b1), .val (.int (7 : Int32)), .val (.int (1 : Int32)), .val (.ref (A 2))] [(.ref (A 2))])) (fun _ k => XS.aload X4.here hx rfl (hb hby d1_19) rfl rfl k) ?_
  obtain ⟨T6, X6, e6, st6⟩ := getF X4 hx hZ hown (host := "") (Or.inl (hw _ (List.mem_of_getElem? (i := 26) rfl))) Via.refl e4 (F_STARTING_value.ext x1) (g := (mkF m 21 #[.val (.int (1 : Int32)), .val (.ref b1), .val (.int (7 : Int32)), .val (.int (1 : Int32)), .val (.ref (A 2))] [(.ref (A 2))])) rfl rfl (hb hby d1_21)
  refine own_go (B := T6.setTop (mkF m 24 #[.val (.int (1 : Int32)), .val (.ref b1), .val (.int (7 : Int32)), .val (.int (1 : Int32)), .val (.ref (A 2))] [(.int (1 : Int32))])) st6 ?_
  refine own_go (B := T6.setTop (mkF m 25 #[.val (.int (1 : Int32)), .val (.ref b1), .val (.int (7 : Int32)), .val (.int (1 : Int32)), .val (.ref (A 2))] [(.int (1 : Int32)), (.int (1 : Int32))])) (fun _ k => XS.iloadN X6.here hx rfl (hb hby d1_24) rfl k) ?_
  refine own_go (B := T6.setTop (mkF m 28 #[.val (.int (1 : Int32)), .val (.ref b1), .val (.int (7 : Int32)), .val (.int (1 : Int32)), .val (.ref (A 2))] [])) (fun _ k => XS.icmpNo X6.here hx rfl (hb hby d1_25) rfl (by decide) k) ?_
  refine own_go (B := T6.setTop (mkF m 30 #[.val (.int (1 : Int32)), .val (.ref b1), .val (.int (7 : Int32)), .val (.int (1 : Int32)), .val (.ref (A 2))] [(.ref (A 2))])) (fun _ k => XS.aload X6.here hx rfl (hb hby d1_28) rfl rfl k) ?_
  exact own_ret X6 hx (t := (.object "com/example/quorumhand/quorumhand/engine/BrokerState")) hrt rfl (Or.inr (Or.inr (Or.inr (Or.inr ⟨rfl, rfl, rfl⟩)))) (hb hby d1_30) hlk ⟨rfl, N1, by rw [e6]; exact E1⟩ (by decide) (by decide)
set_option maxRecDepth 65536 in
set_option maxHeartbeats 40000000 in
theorem rmO2 (l : Launch) (Z : State) (a0 : Array Value) (hw : ∀ d ∈ tables_1, d.before a0 Z = true) (ws : List Jvm.Cond) (A : Nat → Addr) (hW : own_W Z A) (h0 : Heap) (x0 : Ext Z.heap h0)  :
    own_Met l Z (⟨"com/example/quorumhand/quorumhand/engine/BrokerState", "of", "(I)Lcom/example/quorumhand/quorumhand/engine/BrokerState;"⟩ : MethodName) prog_4_method_5_code 5 (some (.object "com/example/quorumhand/quorumhand/engine/BrokerState")) ws ({ frames := 2, cells := 1, slots := 7, locals := 25 } : Room) #[(.int (2 : Int32))] h0 (fun v_ h_ L_ => v_ = some (.ref (A 3)) ∧ Fr Z.heap.size L_ ∧ Ext h0 h_) := by
  refine own_body (plainFor_of_name pn_0) fun p e s m below meth c s₁ hx hby hml hown hnm hlk hrt hZ X0 e0 => ?_
  have N0 := Fr.nil Z.heap.size
  have hW' := hW
  obtain ⟨-, -, -, -, -, -, -, -, -, -, -, -, -, -, -, -, -, F_NOT_RUNNING_value, -, -, F_STARTING_value, F_RECOVERY_value, -, -, -, -, -, -, -, -, -⟩ := hW'
  refine own_go (B := s₁.setTop (mkF m 0 #[.val (.int (2 : Int32)), .unset, .unset, .unset, .unset] [])) (fun t k => castTop (ef_1 m (2 : Int32)) k) ?_
  obtain ⟨_, _, ⟨T1, L1, k1, n1⟩, -, X1, ⟨Lc1, hQ1, l1, y1, z1⟩, st1⟩ := Jvm.LawKit.callS X0 hx (y := (⟨"com/example/quorumhand/quorumhand/engine/BrokerState", "values", "()[Lcom/example/quorumhand/quorumhand/engine/BrokerState;"⟩ : MethodName)) hown (mvT hZ (hw _ (List.mem_of_getElem? (i := 4) rfl))) (mvT hZ (hw _ (List.mem_of_getElem? (i := 5) rfl))) (mvT hZ (hw _ (List.mem_of_getElem? (i := 2) rfl))) (mvT hZ (hw _ (List.mem_of_getElem? (i := 6) rfl))) (by decide) (own_back (W := 0) (rmV l Z a0 hw [] A hW h0 x0) hZ (hw _ (List.mem_of_getElem? (i := 6) rfl)) (hw _ (List.mem_of_getElem? (i := 2) rfl)) (by decide) (by decide)) (g := (mkF m 0 #[.val (.int (2 : Int32)), .unset, .unset, .unset, .unset] [])) rfl (by rw [hml]; rfl) (argsL := []) (rest := []) (lenOf pd_0 rfl) rfl (by show 2 * 0 + _ ≤ _; exact Nat.le_of_eq rfl) (hb hby d1_0) (fun _ _ => ⟨rfl, e0, (by decide : 0 + 1 ≤ _), (by decide : 0 + 7 ≤ _)⟩)
  dsimp only [Pt.U, Pt.locs, Pt.cells, Pt.slots] at X1 l1 y1 z1 st1 hQ1
  subst l1 y1 z1
  obtain ⟨b1, k1', rfl, N1q, E1, V1⟩ := hQ1
  have N1 := Fr.app N0 N1q
  have x1 : Ext Z.heap T1.heap := own_xt x0 E1
  refine own_go (B := T1.setTop (mkF m 3 #[.val (.int (2 : Int32)), .unset, .unset, .unset, .unset] [(.ref b1)])) st1 ?_
  refine own_go (B := T1.setTop (mkF m 4 #[.val (.int (2 : Int32)), .val (.ref b1), .unset, .unset, .unset] [])) (fun _ k => XS.astoreN X1.here hx rfl (hb hby d1_3) rfl rfl (l' := #[.val (.int (2 : Int32)), .val (.ref b1), .unset, .unset, .unset]) rfl k) ?_
  refine own_go (B := T1.setTop (mkF m 5 #[.val (.int (2 : Int32)), .val (.ref b1), .unset, .unset, .unset] [(.ref b1)])) (fun _ k => XS.aloadN X1.here hx rfl (hb hby d1_4) rfl rfl k) ?_
  obtain ⟨cl2, Ar2, q2a, q2b, q2c, q2d, q2e⟩ := id V1
  refine own_go (B := T1.setTop (mkF m 6 #[.val (.int (2 : Int32)), .val (.ref b1), .unset, .unset, .unset] [(.int (7 : Int32))])) (fun _ k => X1.arraylength hx Ar2.1 (State.isArrayOf_alike hZ.alike Ar2.2.1) (g := (mkF m 5 #[.val (.int (2 : Int32)), .val (.ref b1), .unset, .unset, .unset] [(.ref b1)])) rfl rfl (hb hby d1_5) _ (by rw [len_of q2b q2c]; exact k)) ?_
  refine own_go (B := T1.setTop (mkF m 7 #[.val (.int (2 : Int32)), .val (.ref b1), .val (.int (7 : Int32)), .unset, .unset] [])) (fun _ k => XS.istoreN X1.here hx rfl (hb hby d1_6) rfl (l' := #[.val (.int (2 : Int32)), .val (.ref b1), .val (.int (7 : Int32)), .unset, .unset]) rfl k) ?_
  refine own_go (B := T1.setTop (mkF m 8 #[.val (.int (2 : Int32)), .val (.ref b1), .val (.int (7 : Int32)), .unset, .unset] [(.int (0 : Int32))])) (fun _ k => XT.iconstV X1.here hx rfl (0 : Int32) (hb hby d1_7) rfl k) ?_
  refine own_go (B := T1.setTop (mkF m 9 #[.val (.int (2 : Int32)), .val (.ref b1), .val (.int (7 : Int32)), .val (.int (0 : Int32)), .unset] [])) (fun _ k => XS.istoreN X1.here hx rfl (hb hby d1_8) rfl (l' := #[.val (.int (2 : Int32)), .val (.ref b1), .val (.int (7 : Int32)), .val (.int (0 : Int32)), .unset]) rfl k) ?_
  refine own_go (B := T1.setTop (mkF m 10 #[.val (.int (2 : Int32)), .val (.ref b1), .val (.int (7 : Int32)), .val (.int (0 : Int32)), .unset] [(.int (0 : Int32))])) (fun _ k => XS.iloadN X1.here hx rfl (hb hby d1_9) rfl k) ?_
  refine own_go (B := T1.setTop (mkF m 11 #[.val (.int (2 : Int32)), .val (.ref b1), .val (.int (7 : Int32)), .val (.int (0 : Int32)), .unset] [(.int (7 : Int32)), (.int (0 : Int32))])) (fun _ k => XS.iloadN X1.here hx rfl (hb hby d1_10) rfl k) ?_
  refine own_go (B := T1.setTop (mkF m 14 #[.val (.int (2 : Int32)), .val (.ref b1), .val (.int (7 : Int32)), .val (.int (0 : Int32)), .unset] [])) (fun _ k => XS.icmpNo X1.here hx rfl (hb hby d1_11) rfl (by decide) k) ?_
  refine own_go (B := T1.setTop (mkF m 15 #[.val (.int (2 : Int32)), .val (.ref b1), .val (.int (7 : Int32)), .val (.int (0 : Int32)), .unset] [(.ref b1)])) (fun _ k => XS.aloadN X1.here hx rfl (hb hby d1_14) rfl rfl k) ?_
  refine own_go (B := T1.setTop (mkF m 16 #[.val (.int (2 : Int32)), .val (.ref b1), .val (.int (7 : Int32)), .val (.int (0 : Int32)), .unset] [(.int (0 : Int32)), (.ref b1)])) (fun _ k => XS.iloadN X1.here hx rfl (hb hby d1_15) rfl k) ?_
  obtain ⟨cl3, Ar3, q3a, q3b, q3c, q3d, q3e⟩ := id V1
  have i3 := inb_of (j := (0 : Int32)) q3b ⟨by decide, by decide⟩
  refine own_go (B := T1.setTop (mkF m 17 #[.val (.int (2 : Int32)), .val (.ref b1), .val (.int (7 : Int32)), .val (.int (0 : Int32)), .unset] [(.ref (A 1))])) (fun _ k => X1.aaload hx (j := (0 : Int32)) (v := (.ref (A 1))) Ar3.1 (State.isArrayOf_alike hZ.alike Ar3.2.1) rfl Ar3.2.2 i3 (Has.at q3d i3 rfl) (g := (mkF m 16 #[.val (.int (2 : Int32)), .val (.ref b1), .val (.int (7 : Int32)), .val (.int (0 : Int32)), .unset] [(.int (0 : Int32)), (.ref b1)])) rfl rfl (hb hby d1_16) _ k) ?_
  refine own_go (B := T1.setTop (mkF m 19 #[.val (.int (2 : Int32)), .val (.ref b1), .val (.int (7 : Int32)), .val (.int (0 : Int32)), .val (.ref (A 1))] [])) (fun _ k => XS.astore X1.here hx rfl (hb hby d1_17) rfl rfl (l' := #[.val (.int (2 : Int32)), .val (.ref b1), .val (.int (7 : Int32)), .val (.int (0 : Int32)), .val (.ref (A 1))]) rfl k) ?_
  refine own_go (B := T1.setTop (mkF m 21 #[.val (.int (2 : Int32)), .val (.ref b1), .val (.int (7 : Int32)), .val (.int (0 : Int32)), .val (.ref (A 1))] [(.ref (A 1))])) (fun _ k => XS.aload X1.here hx rfl (hb hby d1_19) rfl rfl k) ?_
  obtain ⟨T4, X4, e4, st4⟩ := getF X1 hx hZ hown (host := "") (Or.inl (hw _ (List.mem_of_getElem? (i := 26) rfl))) Via.refl rfl (F_NOT_RUNNING_value.ext x1) (g := (mkF m 21 #[.val (.int (2 : Int32)), .val (.ref b1), .val (.int (7 : Int32)), .val (.int (0 : Int32)), .val (.ref (A 1))] [(.ref (A 1))])) rfl rfl (hb hby d1_21)
  refine own_go (B := T4.setTop (mkF m 24 #[.val (.int (2 : Int32)), .val (.ref b1), .val (.int (7 : Int32)), .val (.int (0 : Int32)), .val (.ref (A 1))] [(.int (0 : Int32))])) st4 ?_
  refine own_go (B := T4.setTop (mkF m 25 #[.val (.int (2 : Int32)), .val (.ref b1), .val (.int (7 : Int32)), .val (.int (0 : Int32)), .val (.ref (A 1))] [(.int (2 : Int32)), (.int (0 : Int32))])) (fun _ k => XS.iloadN X4.here hx rfl (hb hby d1_24) rfl k) ?_
  refine own_go (B := T4.setTop (mkF m 31 #[.val (.int (2 : Int32)), .val (.ref b1), .val (.int (7 : Int32)), .val (.int (0 : Int32)), .val (.ref (A 1))] [])) (fun _ k => XS.icmpYes X4.here hx rfl (pc0 := 25) (pc' := 31) rfl (hb hby d1_25) rfl (by decide) (by decide) (by decide) k) ?_
  refine own_go (B := T4.setTop (mkF m 34 #[.val (.int (2 : Int32)), .val (.ref b1), .val (.int (7 : Int32)), .val (.int ((0 : Int32) + (1 : Int32))), .val (.ref (A 1))] [])) (fun _ k => XT.iincV X4.here hx rfl (1 : Int32) (hb hby d1_31) rfl rfl (l' := #[.val (.int (2 : Int32)), .val (.ref b1), .val (.int (7 : Int32)), .val (.int ((0 : Int32) + (1 : Int32))), .val (.ref (A 1))]) rfl k) ?_
  rw [(by decide +kernel : ((0 : Int32) + (1 : Int32)) = (1 : Int32))]
  refine own_go (B := T4.setTop (mkF m 9 #[.val (.int (2 : Int32)), .val (.ref b1), .val (.int (7 : Int32)), .val (.int (1 : Int32)), .val (.ref (A 1))] [])) (fun _ k => XS.goto X4.here hx rfl (pc0 := 34) (pc' := 9) rfl (hb hby d1_34) (by decide) (by decide) k) ?_
  refine own_go (B := T4.setTop (mkF m 10 #[.val (.int (2 : Int32)), .val (.ref b1), .val (.int (7 : Int32)), .val (.int (1 : Int32)), .val (.ref (A 1))] [(.int (1 : Int32))])) (fun _ k => XS.iloadN X4.here hx rfl (hb hby d1_9) rfl k) ?_
  refine own_go (B := T4.setTop (mkF m 11 #[.val (.int (2 : Int32)), .val (.ref b1), .val (.int (7 : Int32)), .val (.int (1 : Int32)), .val (.ref (A 1))] [(.int (7 : Int32)), (.int (1 : Int32))])) (fun _ k => XS.iloadN X4.here hx rfl (hb hby d1_10) rfl k) ?_
  refine own_go (B := T4.setTop (mkF m 14 #[.val (.int (2 : Int32)), .val (.ref b1), .val (.int (7 : Int32)), .val (.int (1 : Int32)), .val (.ref (A 1))] [])) (fun _ k => XS.icmpNo X4.here hx rfl (hb hby d1_11) rfl (by decide) k) ?_
  refine own_go (B := T4.setTop (mkF m 15 #[.val (.int (2 : Int32)), .val (.ref b1), .val (.int (7 : Int32)), .val (.int (1 : Int32)), .val (.ref (A 1))] [(.ref b1)])) (fun _ k => XS.aloadN X4.here hx rfl (hb hby d1_14) rfl rfl k) ?_
  refine own_go (B := T4.setTop (mkF m 16 #[.val (.int (2 : Int32)), .val (.ref b1), .val (.int (7 : Int32)), .val (.int (1 : Int32)), .val (.ref (A 1))] [(.int (1 : Int32)), (.ref b1)])) (fun _ k => XS.iloadN X4.here hx rfl (hb hby d1_15) rfl k) ?_
  obtain ⟨cl5, Ar5, q5a, q5b, q5c, q5d, q5e⟩ := id V1
  have i5 := inb_of (j := (1 : Int32)) q5b ⟨by decide, by decide⟩
  refine own_go (B := T4.setTop (mkF m 17 #[.val (.int (2 : Int32)), .val (.ref b1), .val (.int (7 : Int32)), .val (.int (1 : Int32)), .val (.ref (A 1))] [(.ref (A 2))])) (fun _ k => X4.aaload hx (j := (1 : Int32)) (v := (.ref (A 2))) (by rw [e4]; exact Ar5.1) (State.isArrayOf_alike hZ.alike Ar5.2.1) rfl Ar5.2.2 i5 (Has.at q5d i5 rfl) (g := (mkF m 16 #[.val (.int (2 : Int32)), .val (.ref b1), .val (.int (7 : Int32)), .val (.int (1 : Int32)), .val (.ref (A 1))] [(.int (1 : Int32)), (.ref b1)])) rfl rfl (hb hby d1_16) _ k) ?_
  refine own_go (B := T4.setTop (mkF m 19 #[.val (.int (2 : Int32)), .val (.ref b1), .val (.int (7 : Int32)), .val (.int (1 : Int32)), .val (.ref (A 2))] [])) (fun _ k => XS.astore X4.here hx rfl (hb hby d1_17) rfl rfl (l' := #[.val (.int (2 : Int32)), .val (.ref b1), .val (.int (7 : Int32)), .val (.int (1 : Int32)), .val (.ref (A 2))]) rfl k) ?_
  refine own_go (B := T4.setTop (mkF m 21 #[.val (.int (2 : Int32)), .val (.ref b1), .val (.int (7 : Int32)), .val (.int (1 : Int32)), .val (.ref (A 2))] [(.ref (A 2))])) (fun _ k => XS.aload X4.here hx rfl (hb hby d1_19) rfl rfl k) ?_
  obtain ⟨T6, X6, e6, st6⟩ := getF X4 hx hZ hown (host := "") (Or.inl (hw _ (List.mem_of_getElem? (i := 26) rfl))) Via.refl e4 (F_STARTING_value.ext x1) (g := (mkF m 21 #[.val (.int (2 : Int32)), .val (.ref b1), .val (.int (7 : Int32)), .val (.int (1 : Int32)), .val (.ref (A 2))] [(.ref (A 2))])) rfl rfl (hb hby d1_21)
  refine own_go (B := T6.setTop (mkF m 24 #[.val (.int (2 : Int32)), .val (.ref b1), .val (.int (7 : Int32)), .val (.int (1 : Int32)), .val (.ref (A 2))] [(.int (1 : Int32))])) st6 ?_
  refine own_go (B := T6.setTop (mkF m 25 #[.val (.int (2 : Int32)), .val (.ref b1), .val (.int (7 : Int32)), .val (.int (1 : Int32)), .val (.ref (A 2))] [(.int (2 : Int32)), (.int (1 : Int32))])) (fun _ k => XS.iloadN X6.here hx rfl (hb hby d1_24) rfl k) ?_
  refine own_go (B := T6.setTop (mkF m 31 #[.val (.int (2 : Int32)), .val (.ref b1), .val (.int (7 : Int32)), .val (.int (1 : Int32)), .val (.ref (A 2))] [])) (fun _ k => XS.icmpYes X6.here hx rfl (pc0 := 25) (pc' := 31) rfl (hb hby d1_25) rfl (by decide) (by decide) (by decide) k) ?_
  refine own_go (B := T6.setTop (mkF m 34 #[.val (.int (2 : Int32)), .val (.ref b1), .val (.int (7 : Int32)), .val (.int ((1 : Int32) + (1 : Int32))), .val (.ref (A 2))] [])) (fun _ k => XT.iincV X6.here hx rfl (1 : Int32) (hb hby d1_31) rfl rfl (l' := #[.val (.int (2 : Int32)), .val (.ref b1), .val (.int (7 : Int32)), .val (.int ((1 : Int32) + (1 : Int32))), .val (.ref (A 2))]) rfl k) ?_
  rw [(by decide +kernel : ((1 : Int32) + (1 : Int32)) = (2 : Int32))]
  refine own_go (B := T6.setTop (mkF m 9 #[.val (.int (2 : Int32)), .val (.ref b1), .val (.int (7 : Int32)), .val (.int (2 : Int32)), .val (.ref (A 2))] [])) (fun _ k => XS.goto X6.here hx rfl (pc0 := 34) (pc' := 9) rfl (hb hby d1_34) (by decide) (by decide) k) ?_
  refine own_go (B := T6.setTop (mkF m 10 #[.val (.int (2 : Int32)), .val (.ref b1), .val (.int (7 : Int32)), .val (.int (2 : Int32)), .val (.ref (A 2))] [(.int (2 : Int32))])) (fun _ k => XS.iloadN X6.here hx rfl (hb hby d1_9) rfl k) ?_
  refine own_go (B := T6.setTop (mkF m 11 #[.val (.int (2 : Int32)), .val (.ref b1), .val (.int (7 : Int32)), .val (.int (2 : Int32)), .val (.ref (A 2))] [(.int (7 : Int32)), (.int (2 : Int32))])) (fun _ k => XS.iloadN X6.here hx rfl (hb hby d1_10) rfl k) ?_
  refine own_go (B := T6.setTop (mkF m 14 #[.val (.int (2 : Int32)), .val (.ref b1), .val (.int (7 : Int32)), .val (.int (2 : Int32)), .val (.ref (A 2))] [])) (fun _ k => XS.icmpNo X6.here hx rfl (hb hby d1_11) rfl (by decide) k) ?_
  refine own_go (B := T6.setTop (mkF m 15 #[.val (.int (2 : Int32)), .val (.ref b1), .val (.int (7 : Int32)), .val (.int (2 : Int32)), .val (.ref (A 2))] [(.ref b1)])) (fun _ k => XS.aloadN X6.here hx rfl (hb hby d1_14) rfl rfl k) ?_
  refine own_go (B := T6.setTop (mkF m 16 #[.val (.int (2 : Int32)), .val (.ref b1), .val (.int (7 : Int32)), .val (.int (2 : Int32)), .val (.ref (A 2))] [(.int (2 : Int32)), (.ref b1)])) (fun _ k => XS.iloadN X6.here hx rfl (hb hby d1_15) rfl k) ?_
  obtain ⟨cl7, Ar7, q7a, q7b, q7c, q7d, q7e⟩ := id V1
  have i7 := inb_of (j := (2 : Int32)) q7b ⟨by decide, by decide⟩
  refine own_go (B := T6.setTop (mkF m 17 #[.val (.int (2 : Int32)), .val (.ref b1), .val (.int (7 : Int32)), .val (.int (2 : Int32)), .val (.ref (A 2))] [(.ref (A 3))])) (fun _ k => X6.aaload hx (j := (2 : Int32)) (v := (.ref (A 3))) (by rw [e6]; exact Ar7.1) (State.isArrayOf_alike hZ.alike Ar7.2.1) rfl Ar7.2.2 i7 (Has.at q7d i7 rfl) (g := (mkF m 16 #[.val (.int (2 : Int32)), .val (.ref b1), .val (.int (7 : Int32)), .val (.int (2 : Int32)), .val (.ref (A 2))] [(.int (2 : Int32)), (.ref b1)])) rfl rfl (hb hby d1_16) _ k) ?_
  refine own_go (B := T6.setTop (mkF m 19 #[.val (.int (2 : Int32)), .val (.ref b1), .val (.int (7 : Int32)), .val (.int (2 : Int32)), .val (.ref (A 3))] [])) (fun _ k => XS.astore X6.here hx rfl (hb hby d1_17) rfl rfl (l' := #[.val (.int (2 : Int32)), .val (.ref b1), .val (.int (7 : Int32)), .val (.int (2 : Int32)), .val (.ref (A 3))]) rfl k) ?_
  refine own_go (B := T6.setTop (mkF m 21 #[.val (.int (2 : Int32)), .val (.ref b1), .val (.int (7 : Int32)), .val (.int (2 : Int32)), .val (.ref (A 3))] [(.ref (A 3))])) (fun _ k => XS.aload X6.here hx rfl (hb hby d1_19) rfl rfl k) ?_
  obtain ⟨T8, X8, e8, st8⟩ := getF X6 hx hZ hown (host := "") (Or.inl (hw _ (List.mem_of_getElem? (i := 26) rfl))) Via.refl e6 (F_RECOVERY_value.ext x1) (g := (mkF m 21 #[.val (.int (2 : Int32)), .val (.ref b1), .val (.int (7 : Int32)), .val (.int (2 : Int32)), .val (.ref (A 3))] [(.ref (A 3))])) rfl rfl (hb hby d1_21)
  refine own_go (B := T8.setTop (mkF m 24 #[.val (.int (2 : Int32)), .val (.ref b1), .val (.int (7 : Int32)), .val (.int (2 : Int32)), .val (.ref (A 3))] [(.int (2 : Int32))])) st8 ?_
  refine own_go (B := T8.setTop (mkF m 25 #[.val (.int (2 : Int32)), .val (.ref b1), .val (.int (7 : Int32)), .val (.int (2 : Int32)), .val (.ref (A 3))] [(.int (2 : Int32)), (.int (2 : Int32))])) (fun _ k => XS.iloadN X8.here hx rfl (hb hby d1_24) rfl k) ?_
  refine own_go (B := T8.setTop (mkF m 28 #[.val (.int (2 : Int32)), .val (.ref b1), .val (.int (7 : Int32)), .val (.int (2 : Int32)), .val (.ref (A 3))] [])) (fun _ k => XS.icmpNo X8.here hx rfl (hb hby d1_25) rfl (by decide) k) ?_
  refine own_go (B := T8.setTop (mkF m 30 #[.val (.int (2 : Int32)), .val (.ref b1), .val (.int (7 : Int32)), .val (.int (2 : Int32)), .val (.ref (A 3))] [(.ref (A 3))])) (fun _ k => XS.aload X8.here hx rfl (hb hby d1_28) rfl rfl k) ?_
  exact own_ret X8 hx (t := (.object "com/example/quorumhand/quorumhand/engine/BrokerState")) hrt rfl (Or.inr (Or.inr (Or.inr (Or.inr ⟨rfl, rfl, rfl⟩)))) (hb hby d1_30) hlk ⟨rfl, N1, by rw [e8]; exact E1⟩ (by decide) (by decide)
set_option maxRecDepth 65536 in
set_option maxHeartbeats 40000000 in
theorem rmO3 (l : Launch) (Z : State) (a0 : Array Value) (hw : ∀ d ∈ tables_1, d.before a0 Z = true) (ws : List Jvm.Cond) (A : Nat → Addr) (hW : own_W Z A) (h0 : Heap) (x0 : Ext Z.heap h0)  :
    own_Met l Z (⟨"com/example/quorumhand/quorumhand/engine/BrokerState", "of", "(I)Lcom/example/quorumhand/quorumhand/engine/BrokerState;"⟩ : MethodName) prog_4_method_5_code 5 (some (.object "com/example/quorumhand/quorumhand/engine/BrokerState")) ws ({ frames := 2, cells := 1, slots := 7, locals := 25 } : Room) #[(.int (3 : Int32))] h0 (fun v_ h_ L_ => v_ = some (.ref (A 4)) ∧ Fr Z.heap.size L_ ∧ Ext h0 h_) := by
  refine own_body (plainFor_of_name pn_0) fun p e s m below meth c s₁ hx hby hml hown hnm hlk hrt hZ X0 e0 => ?_
  have N0 := Fr.nil Z.heap.size
  have hW' := hW
  obtain ⟨-, -, -, -, -, -, -, -, -, -, -, -, -, -, -, -, -, F_NOT_RUNNING_value, -, -, F_STARTING_value, F_RECOVERY_value, F_RUNNING_value, -, -, -, -, -, -, -, -⟩ := hW'
  refine own_go (B := s₁.setTop (mkF m 0 #[.val (.int (3 : Int32)), .unset, .unset, .unset, .unset] [])) (fun t k => castTop (ef_1 m (3 : Int32)) k) ?_
  obtain ⟨_, _, ⟨T1, L1, k1, n1⟩, -, X1, ⟨Lc1, hQ1, l1, y1, z1⟩, st1⟩ := Jvm.LawKit.callS X0 hx (y := (⟨"com/example/quorumhand/quorumhand/engine/BrokerState", "values", "()[Lcom/example/quorumhand/quorumhand/engine/BrokerState;"⟩ : MethodName)) hown (mvT hZ (hw _ (List.mem_of_getElem? (i := 4) rfl))) (mvT hZ (hw _ (List.mem_of_getElem? (i := 5) rfl))) (mvT hZ (hw _ (List.mem_of_getElem? (i := 2) rfl))) (mvT hZ (hw _ (List.mem_of_getElem? (i := 6) rfl))) (by decide) (own_back (W := 0) (rmV l Z a0 hw [] A hW h0 x0) hZ (hw _ (List.mem_of_getElem? (i := 6) rfl)) (hw _ (List.mem_of_getElem? (i := 2) rfl)) (by decide) (by decide)) (g := (mkF m 0 #[.val (.int (3 : Int32)), .unset, .unset, .unset, .unset] [])) rfl (by rw [hml]; rfl) (argsL := []) (rest := []) (lenOf pd_0 rfl) rfl (by show 2 * 0 + _ ≤ _; exact Nat.le_of_eq rfl) (hb hby d1_0) (fun _ _ => ⟨rfl, e0, (by decide : 0 + 1 ≤ _), (by decide : 0 + 7 ≤ _)⟩)
  dsimp only [Pt.U, Pt.locs, Pt.cells, Pt.slots] at X1 l1 y1 z1 st1 hQ1
  subst l1 y1 z1
  obtain ⟨b1, k1', rfl, N1q, E1, V1⟩ := hQ1
  have N1 := Fr.app N0 N1q
  have x1 : Ext Z.heap T1.heap := own_xt x0 E1
  refine own_go (B := T1.setTop (mkF m 3 #[.val (.int (3 : Int32)), .unset, .unset, .unset, .unset] [(.ref b1)])) st1 ?_
  refine own_go (B := T1.setTop (mkF m 4 #[.val (.int (3 : Int32)), .val (.ref b1), .unset, .unset, .unset] [])) (fun _ k => XS.astoreN X1.here hx rfl (hb hby d1_3) rfl rfl (l' := #[.val (.int (3 : Int32)), .val (.ref b1), .unset, .unset, .unset]) rfl k) ?_
  refine own_go (B := T1.setTop (mkF m 5 #[.val (.int (3 : Int32)), .val (.ref b1), .unset, .unset, .unset] [(.ref b1)])) (fun _ k => XS.aloadN X1.here hx rfl (hb hby d1_4) rfl rfl k) ?_
  obtain ⟨cl2, Ar2, q2a, q2b, q2c, q2d, q2e⟩ := id V1
  refine own_go (B := T1.setTop (mkF m 6 #[.val (.int (3 : Int32)), .val (.ref b1), .unset, .unset, .unset] [(.int (7 : Int32))])) (fun _ k => X1.arraylength hx Ar2.1 (State.isArrayOf_alike hZ.alike Ar2.2.1) (g := (mkF m 5 #[.val (.int (3 : Int32)), .val (.ref b1), .unset, .unset, .unset] [(.ref b1)])) rfl rfl (hb hby d1_5) _ (by rw [len_of q2b q2c]; exact k)) ?_
  refine own_go (B := T1.setTop (mkF m 7 #[.val (.int (3 : Int32)), .val (.ref b1), .val (.int (7 : Int32)), .unset, .unset] [])) (fun _ k => XS.istoreN X1.here hx rfl (hb hby d1_6) rfl (l' := #[.val (.int (3 : Int32)), .val (.ref b1), .val (.int (7 : Int32)), .unset, .unset]) rfl k) ?_
  refine own_go (B := T1.setTop (mkF m 8 #[.val (.int (3 : Int32)), .val (.ref b1), .val (.int (7 : Int32)), .unset, .unset] [(.int (0 : Int32))])) (fun _ k => XT.iconstV X1.here hx rfl (0 : Int32) (hb hby d1_7) rfl k) ?_
  refine own_go (B := T1.setTop (mkF m 9 #[.val (.int (3 : Int32)), .val (.ref b1), .val (.int (7 : Int32)), .val (.int (0 : Int32)), .unset] [])) (fun _ k => XS.istoreN X1.here hx rfl (hb hby d1_8) rfl (l' := #[.val (.int (3 : Int32)), .val (.ref b1), .val (.int (7 : Int32)), .val (.int (0 : Int32)), .unset]) rfl k) ?_
  refine own_go (B := T1.setTop (mkF m 10 #[.val (.int (3 : Int32)), .val (.ref b1), .val (.int (7 : Int32)), .val (.int (0 : Int32)), .unset] [(.int (0 : Int32))])) (fun _ k => XS.iloadN X1.here hx rfl (hb hby d1_9) rfl k) ?_
  refine own_go (B := T1.setTop (mkF m 11 #[.val (.int (3 : Int32)), .val (.ref b1), .val (.int (7 : Int32)), .val (.int (0 : Int32)), .unset] [(.int (7 : Int32)), (.int (0 : Int32))])) (fun _ k => XS.iloadN X1.here hx rfl (hb hby d1_10) rfl k) ?_
  refine own_go (B := T1.setTop (mkF m 14 #[.val (.int (3 : Int32)), .val (.ref b1), .val (.int (7 : Int32)), .val (.int (0 : Int32)), .unset] [])) (fun _ k => XS.icmpNo X1.here hx rfl (hb hby d1_11) rfl (by decide) k) ?_
  refine own_go (B := T1.setTop (mkF m 15 #[.val (.int (3 : Int32)), .val (.ref b1), .val (.int (7 : Int32)), .val (.int (0 : Int32)), .unset] [(.ref b1)])) (fun _ k => XS.aloadN X1.here hx rfl (hb hby d1_14) rfl rfl k) ?_
  refine own_go (B := T1.setTop (mkF m 16 #[.val (.int (3 : Int32)), .val (.ref b1), .val (.int (7 : Int32)), .val (.int (0 : Int32)), .unset] [(.int (0 : Int32)), (.ref b1)])) (fun _ k => XS.iloadN X1.here hx rfl (hb hby d1_15) rfl k) ?_
  obtain ⟨cl3, Ar3, q3a, q3b, q3c, q3d, q3e⟩ := id V1
  have i3 := inb_of (j := (0 : Int32)) q3b ⟨by decide, by decide⟩
  refine own_go (B := T1.setTop (mkF m 17 #[.val (.int (3 : Int32)), .val (.ref b1), .val (.int (7 : Int32)), .val (.int (0 : Int32)), .unset] [(.ref (A 1))])) (fun _ k => X1.aaload hx (j := (0 : Int32)) (v := (.ref (A 1))) Ar3.1 (State.isArrayOf_alike hZ.alike Ar3.2.1) rfl Ar3.2.2 i3 (Has.at q3d i3 rfl) (g := (mkF m 16 #[.val (.int (3 : Int32)), .val (.ref b1), .val (.int (7 : Int32)), .val (.int (0 : Int32)), .unset] [(.int (0 : Int32)), (.ref b1)])) rfl rfl (hb hby d1_16) _ k) ?_
  refine own_go (B := T1.setTop (mkF m 19 #[.val (.int (3 : Int32)), .val (.ref b1), .val (.int (7 : Int32)), .val (.int (0 : Int32)), .val (.ref (A 1))] [])) (fun _ k => XS.astore X1.here hx rfl (hb hby d1_17) rfl rfl (l' := #[.val (.int (3 : Int32)), .val (.ref b1), .val (.int (7 : Int32)), .val (.int (0 : Int32)), .val (.ref (A 1))]) rfl k) ?_
  refine own_go (B := T1.setTop (mkF m 21 #[.val (.int (3 : Int32)), .val (.ref b1), .val (.int (7 : Int32)), .val (.int (0 : Int32)), .val (.ref (A 1))] [(.ref (A 1))])) (fun _ k => XS.aload X1.here hx rfl (hb hby d1_19) rfl rfl k) ?_
  obtain ⟨T4, X4, e4, st4⟩ := getF X1 hx hZ hown (host := "") (Or.inl (hw _ (List.mem_of_getElem? (i := 26) rfl))) Via.refl rfl (F_NOT_RUNNING_value.ext x1) (g := (mkF m 21 #[.val (.int (3 : Int32)), .val (.ref b1), .val (.int (7 : Int32)), .val (.int (0 : Int32)), .val (.ref (A 1))] [(.ref (A 1))])) rfl rfl (hb hby d1_21)
  refine own_go (B := T4.setTop (mkF m 24 #[.val (.int (3 : Int32)), .val (.ref b1), .val (.int (7 : Int32)), .val (.int (0 : Int32)), .val (.ref (A 1))] [(.int (0 : Int32))])) st4 ?_
  refine own_go (B := T4.setTop (mkF m 25 #[.val (.int (3 : Int32)), .val (.ref b1), .val (.int (7 : Int32)), .val (.int (0 : Int32)), .val (.ref (A 1))] [(.int (3 : Int32)), (.int (0 : Int32))])) (fun _ k => XS.iloadN X4.here hx rfl (hb hby d1_24) rfl k) ?_
  refine own_go (B := T4.setTop (mkF m 31 #[.val (.int (3 : Int32)), .val (.ref b1), .val (.int (7 : Int32)), .val (.int (0 : Int32)), .val (.ref (A 1))] [])) (fun _ k => XS.icmpYes X4.here hx rfl (pc0 := 25) (pc' := 31) rfl (hb hby d1_25) rfl (by decide) (by decide) (by decide) k) ?_
  refine own_go (B := T4.setTop (mkF m 34 #[.val (.int (3 : Int32)), .val (.ref b1), .val (.int (7 : Int32)), .val (.int ((0 : Int32) + (1 : Int32))), .val (.ref (A 1))] [])) (fun _ k => XT.iincV X4.here hx rfl (1 : Int32) (hb hby d1_31) rfl rfl (l' := #[.val (.int (3 : Int32)), .val (.ref b1), .val (.int (7 : Int32)), .val (.int ((0 : Int32) + (1 : Int32))), .val (.ref (A 1))]) rfl k) ?_
  rw [(by decide +kernel : ((0 : Int32) + (1 : Int32)) = (1 : Int32))]
  refine own_go (B := T4.setTop (mkF m 9 #[.val (.int (3 : Int32)), .val (.ref b1), .val (.int (7 : Int32)), .val (.int (1 : Int32)), .val (.ref (A 1))] [])) (fun _ k => XS.goto X4.here hx rfl (pc0 := 34) (pc' := 9) rfl (hb hby d1_34) (by decide) (by decide) k) ?_
  refine own_go (B := T4.setTop (mkF m 10 #[.val (.int (3 : Int32)), .val (.ref b1), .val (.int (7 : Int32)), .val (.int (1 : Int32)), .val (.ref (A 1))] [(.int (1 : Int32))])) (fun _ k => XS.iloadN X4.here hx rfl (hb hby d1_9) rfl k) ?_
  refine own_go (B := T4.setTop (mkF m 11 #[.val (.int (3 : Int32)), .val (.ref b1), .val (.int (7 : Int32)), .val (.int (1 : Int32)), .val (.ref (A 1))] [(.int (7 : Int32)), (.int (1 : Int32))])) (fun _ k => XS.iloadN X4.here hx rfl (hb hby d1_10) rfl k) ?_
  refine own_go (B := T4.setTop (mkF m 14 #[.val (.int (3 : Int32)), .val (.ref b1), .val (.int (7 : Int32)), .val (.int (1 : Int32)), .val (.ref (A 1))] [])) (fun _ k => XS.icmpNo X4.here hx rfl (hb hby d1_11) rfl (by decide) k) ?_
  refine own_go (B := T4.setTop (mkF m 15 #[.val (.int (3 : Int32)), .val (.ref b1), .val (.int (7 : Int32)), .val (.int (1 : Int32)), .val (.ref (A 1))] [(.ref b1)])) (fun _ k => XS.aloadN X4.here hx rfl (hb hby d1_14) rfl rfl k) ?_
  refine own_go (B := T4.setTop (mkF m 16 #[.val (.int (3 : Int32)), .val (.ref b1), .val (.int (7 : Int32)), .val (.int (1 : Int32)), .val (.ref (A 1))] [(.int (1 : Int32)), (.ref b1)])) (fun _ k => XS.iloadN X4.here hx rfl (hb hby d1_15) rfl k) ?_
  obtain ⟨cl5, Ar5, q5a, q5b, q5c, q5d, q5e⟩ := id V1
  have i5 := inb_of (j := (1 : Int32)) q5b ⟨by decide, by decide⟩
  refine own_go (B := T4.setTop (mkF m 17 #[.val (.int (3 : Int32)), .val (.ref b1), .val (.int (7 : Int32)), .val (.int (1 : Int32)), .val (.ref (A 1))] [(.ref (A 2))])) (fun _ k => X4.aaload hx (j := (1 : Int32)) (v := (.ref (A 2))) (by rw [e4]; exact Ar5.1) (State.isArrayOf_alike hZ.alike Ar5.2.1) rfl Ar5.2.2 i5 (Has.at q5d i5 rfl) (g := (mkF m 16 #[.val (.int (3 : Int32)), .val (.ref b1), .val (.int (7 : Int32)), .val (.int (1 : Int32)), .val (.ref (A 1))] [(.int (1 : Int32)), (.ref b1)])) rfl rfl (hb hby d1_16) _ k) ?_
  refine own_go (B := T4.setTop (mkF m 19 #[.val (.int (3 : Int32)), .val (.ref b1), .val (.int (7 : Int32)), .val (.int (1 : Int32)), .val (.ref (A 2))] [])) (fun _ k => XS.astore X4.here hx rfl (hb hby d1_17) rfl rfl (l' := #[.val (.int (3 : Int32)), .val (.ref b1), .val (.int (7 : Int32)), .val (.int (1 : Int32)), .val (.ref (A 2))]) rfl k) ?_
  refine own_go (B := T4.setTop (mkF m 21 #[.val (.int (3 : Int32)), .val (.ref b1), .val (.int (7 : Int32)), .val (.int (1 : Int32)), .val (.ref (A 2))] [(.ref (A 2))])) (fun _ k => XS.aload X4.here hx rfl (hb hby d1_19) rfl rfl k) ?_
  obtain ⟨T6, X6, e6, st6⟩ := getF X4 hx hZ hown (host := "") (Or.inl (hw _ (List.mem_of_getElem? (i := 26) rfl))) Via.refl e4 (F_STARTING_value.ext x1) (g := (mkF m 21 #[.val (.int (3 : Int32)), .val (.ref b1), .val (.int (7 : Int32)), .val (.int (1 : Int32)), .val (.ref (A 2))] [(.ref (A 2))])) rfl rfl (hb hby d1_21)
  refine own_go (B := T6.setTop (mkF m 24 #[.val (.int (3 : Int32)), .val (.ref b1), .val (.int (7 : Int32)), .val (.int (1 : Int32)), .val (.ref (A 2))] [(.int (1 : Int32))])) st6 ?_
  refine own_go (B := T6.setTop (mkF m 25 #[.val (.int (3 : Int32)), .val (.ref b1), .val (.int (7 : Int32)), .val (.int (1 : Int32)), .val (.ref (A 2))] [(.int (3 : Int32)), (.int (1 : Int32))])) (fun _ k => XS.iloadN X6.here hx rfl (hb hby d1_24) rfl k) ?_
  refine own_go (B := T6.setTop (mkF m 31 #[.val (.int (3 : Int32)), .val (.ref b1), .val (.int (7 : Int32)), .val (.int (1 : Int32)), .val (.ref (A 2))] [])) (fun _ k => XS.icmpYes X6.here hx rfl (pc0 := 25) (pc' := 31) rfl (hb hby d1_25) rfl (by decide) (by decide) (by decide) k) ?_
  refine own_go (B := T6.setTop (mkF m 34 #[.val (.int (3 : Int32)), .val (.ref b1), .val (.int (7 : Int32)), .val (.int ((1 : Int32) + (1 : Int32))), .val (.ref (A 2))] [])) (fun _ k => XT.iincV X6.here hx rfl (1 : Int32) (hb hby d1_31) rfl rfl (l' := #[.val (.int (3 : Int32)), .val (.ref b1), .val (.int (7 : Int32)), .val (.int ((1 : Int32) + (1 : Int32))), .val (.ref (A 2))]) rfl k) ?_
  rw [(by decide +kernel : ((1 : Int32) + (1 : Int32)) = (2 : Int32))]
  refine own_go (B := T6.setTop (mkF m 9 #[.val (.int (3 : Int32)), .val (.ref b1), .val (.int (7 : Int32)), .val (.int (2 : Int32)), .val (.ref (A 2))] [])) (fun _ k => XS.goto X6.here hx rfl (pc0 := 34) (pc' := 9) rfl (hb hby d1_34) (by decide) (by decide) k) ?_
  refine own_go (B := T6.setTop (mkF m 10 #[.val (.int (3 : Int32)), .val (.ref b1), .val (.int (7 : Int32)), .val (.int (2 : Int32)), .val (.ref (A 2))] [(.int (2 : Int32))])) (fun _ k => XS.iloadN X6.here hx rfl (hb hby d1_9) rfl k) ?_
  refine own_go (B := T6.setTop (mkF m 11 #[.val (.int (3 : Int32)), .val (.ref b1), .val (.int (7 : Int32)), .val (.int (2 : Int32)), .val (.ref (A 2))] [(.int (7 : Int32)), (.int (2 : Int32))])) (fun _ k => XS.iloadN X6.here hx rfl (hb hby d1_10) rfl k) ?_
  refine own_go (B := T6.setTop (mkF m 14 #[.val (.int (3 : Int32)), .val (.ref b1), .val (.int (7 : Int32)), .val (.int (2 : Int32)), .val (.ref (A 2))] [])) (fun _ k => XS.icmpNo X6.here hx rfl (hb hby d1_11) rfl (by decide) k) ?_
  refine own_go (B := T6.setTop (mkF m 15 #[.val (.int (3 : Int32)), .val (.ref b1), .val (.int (7 : Int32)), .val (.int (2 : Int32)), .val (.ref (A 2))] [(.ref b1)])) (fun _ k => XS.aloadN X6.here hx rfl (hb hby d1_14) rfl rfl k) ?_
  refine own_go (B := T6.setTop (mkF m 16 #[.val (.int (3 : Int32)), .val (.ref b1), .val (.int (7 : Int32)), .val (.int (2 : Int32)), .val (.ref (A 2))] [(.int (2 : Int32)), (.ref b1)])) (fun _ k => XS.iloadN X6.here hx rfl (hb hby d1_15) rfl k) ?_
  obtain ⟨cl7, Ar7, q7a, q7b, q7c, q7d, q7e⟩ := id V1
  have i7 := inb_of (j := (2 : Int32)) q7b ⟨by decide, by decide⟩
  refine own_go (B := T6.setTop (mkF m 17 #[.val (.int (3 : Int32)), .val (.ref b1), .val (.int (7 : Int32)), .val (.int (2 : Int32)), .val (.ref (A 2))] [(.ref (A 3))])) (fun _ k => X6.aaload hx (j := (2 : Int32)) (v := (.ref (A 3))) (by rw [e6]; exact Ar7.1) (State.isArrayOf_alike hZ.alike Ar7.2.1) rfl Ar7.2.2 i7 (Has.at q7d i7 rfl) (g := (mkF m 16 #[.val (.int (3 : Int32)), .val (.ref b1), .val (.int (7 : Int32)), .val (.int (2 : Int32)), .val (.ref (A 2))] [(.int (2 : Int32)), (.ref b1)])) rfl rfl (hb hby d1_16) _ k) ?_
  refine own_go (B := T6.setTop (mkF m 19 #[.val (.int (3 : Int32)), .val (.ref b1), .val (.int (7 : Int32)), .val (.int (2 : Int32)), .val (.ref (A 3))] [])) (fun _ k => XS.astore X6.here hx rfl (hb hby d1_17) rfl rfl (l' := #[.val (.int (3 : Int32)), .val (.ref b1), .val (.int (7 : Int32)), .val (.int (2 : Int32)), .val (.ref (A 3))]) rfl k) ?_
  refine own_go (B := T6.setTop (mkF m 21 #[.val (.int (3 : Int32)), .val (.ref b1), .val (.int (7 : Int32)), .val (.int (2 : Int32)), .val (.ref (A 3))] [(.ref (A 3))])) (fun _ k => XS.aload X6.here hx rfl (hb hby d1_19) rfl rfl k) ?_
  obtain ⟨T8, X8, e8, st8⟩ := getF X6 hx hZ hown (host := "") (Or.inl (hw _ (List.mem_of_getElem? (i := 26) rfl))) Via.refl e6 (F_RECOVERY_value.ext x1) (g := (mkF m 21 #[.val (.int (3 : Int32)), .val (.ref b1), .val (.int (7 : Int32)), .val (.int (2 : Int32)), .val (.ref (A 3))] [(.ref (A 3))])) rfl rfl (hb hby d1_21)
  refine own_go (B := T8.setTop (mkF m 24 #[.val (.int (3 : Int32)), .val (.ref b1), .val (.int (7 : Int32)), .val (.int (2 : Int32)), .val (.ref (A 3))] [(.int (2 : Int32))])) st8 ?_
  refine own_go (B := T8.setTop (mkF m 25 #[.val (.int (3 : Int32)), .val (.ref b1), .val (.int (7 : Int32)), .val (.int (2 : Int32)), .val (.ref (A 3))] [(.int (3 : Int32)), (.int (2 : Int32))])) (fun _ k => XS.iloadN X8.here hx rfl (hb hby d1_24) rfl k) ?_
  refine own_go (B := T8.setTop (mkF m 31 #[.val (.int (3 : Int32)), .val (.ref b1), .val (.int (7 : Int32)), .val (.int (2 : Int32)), .val (.ref (A 3))] [])) (fun _ k => XS.icmpYes X8.here hx rfl (pc0 := 25) (pc' := 31) rfl (hb hby d1_25) rfl (by decide) (by decide) (by decide) k) ?_
  refine own_go (B := T8.setTop (mkF m 34 #[.val (.int (3 : Int32)), .val (.ref b1), .val (.int (7 : Int32)), .val (.int ((2 : Int32) + (1 : Int32))), .val (.ref (A 3))] [])) (fun _ k => XT.iincV X8.here hx rfl (1 : Int32) (hb hby d1_31) rfl rfl (l' := #[.val (.int (3 : Int32)), .val (.ref b1), .val (.int (7 : Int32)), .val (.int ((2 : Int32) + (1 : Int32))), .val (.ref (A 3))]) rfl k) ?_
  rw [(by decide +kernel : ((2 : Int32) + (1 : Int32)) = (3 : Int32))]
  refine own_go (B := T8.setTop (mkF m 9 #[.val (.int (3 : Int32)), .val (.ref b1), .val (.int (7 : Int32)), .val (.int (3 : Int32)), .val (.ref (A 3))] [])) (fun _ k => XS.goto X8.here hx rfl (pc0 := 34) (pc' := 9) rfl (hb hby d1_34) (by decide) (by decide) k) ?_
  refine own_go (B := T8.setTop (mkF m 10 #[.val (.int (3 : Int32)), .val (.ref b1), .val (.int (7 : Int32)), .val (.int (3 : Int32)), .val (.ref (A 3))] [(.int (3 : Int32))])) (fun _ k => XS.iloadN X8.here hx rfl (hb hby d1_9) rfl k) ?_
  refine own_go (B := T8.setTop (mkF m 11 #[.val (.int (3 : Int32)), .val (.ref b1), .val (.int (7 : Int32)), .val (.int (3 : Int32)), .val (.ref (A 3))] [(.int (7 : Int32)), (.int (3 : Int32))])) (fun _ k => XS.iloadN X8.here hx rfl (hb hby d1_10) rfl k) ?_
  refine own_go (B := T8.setTop (mkF m 14 #[.val (.int (3 : Int32)), .val (.ref b1), .val (.int (7 : Int32)), .val (.int (3 : Int32)), .val (.ref (A 3))] [])) (fun _ k => XS.icmpNo X8.here hx rfl (hb hby d1_11) rfl (by decide) k) ?_
  refine own_go (B := T8.setTop (mkF m 15 #[.val (.int (3 : Int32)), .val (.ref b1), .val (.int (7 : Int32)), .val (.int (3 : Int32)), .val (.ref (A 3))] [(.ref b1)])) (fun _ k => XS.aloadN X8.here hx rfl (hb hby d1_14) rfl rfl k) ?_
  refine own_go (B := T8.setTop (mkF m 16 #[.val (.int (3 : Int32)), .val (.ref b1), .val (.int (7 : Int32)), .val (.int (3 : Int32)), .val (.ref (A 3))] [(.int (3 : Int32)), (.ref b1)])) (fun _ k => XS.iloadN X8.here hx rfl (hb hby d1_15) rfl k) ?_
  obtain ⟨cl9, Ar9, q9a, q9b, q9c, q9d, q9e⟩ := id V1
  have i9 := inb_of (j := (3 : Int32)) q9b ⟨by decide, by decide⟩
  refine own_go (B := T8.setTop (mkF m 17 #[.val (.int (3 : Int32)), .val (.ref b1), .val (.int (7 : Int32)), .val (.int (3 : Int32)), .val (.ref (A 3))] [(.ref (A 4))])) (fun _ k => X8.aaload hx (j := (3 : Int32)) (v := (.ref (A 4))) (by rw [e8]; exact Ar9.1) (State.isArrayOf_alike hZ.alike Ar9.2.1) rfl Ar9.2.2 i9 (Has.at q9d i9 rfl) (g := (mkF m 16 #[.val (.int (3 : Int32)), .val (.ref b1), .val (.int (7 : Int32)), .val (.int (3 : Int32)), .val (.ref (A 3))] [(.int (3 : Int32)), (.ref b1)])) rfl rfl (hb hby d1_16) _ k) ?_
  refine own_go (B := T8.setTop (mkF m 19 #[.val (.int (3 : Int32)), .val (.ref b1), .val (.int (7 : Int32)), .val (.int (3 : Int32)), .val (.ref (A 4))] [])) (fun _ k => XS.astore X8.here hx rfl (hb hby d1_17) rfl rfl (l' := #[.val (.int (3 : Int32)), .val (.ref b1), .val (.int (7 : Int32)), .val (.int (3 : Int32)), .val (.ref (A 4))]) rfl k) ?_
  refine own_go (B := T8.setTop (mkF m 21 #[.val (.int (3 : Int32)), .val (.ref b1), .val (.int (7 : Int32)), .val (.int (3 : Int32)), .val (.ref (A 4))] [(.ref (A 4))])) (fun _ k => XS.aload X8.here hx rfl (hb hby d1_19) rfl rfl k) ?_
  obtain ⟨T10, X10, e10, st10⟩ := getF X8 hx hZ hown (host := "") (Or.inl (hw _ (List.mem_of_getElem? (i := 26) rfl))) Via.refl e8 (F_RUNNING_value.ext x1) (g := (mkF m 21 #[.val (.int (3 : Int32)), .val (.ref b1), .val (.int (7 : Int32)), .val (.int (3 : Int32)), .val (.ref (A 4))] [(.ref (A 4))])) rfl rfl (hb hby d1_21)
  refine own_go (B := T10.setTop (mkF m 24 #[.val (.int (3 : Int32)), .val (.ref b1), .val (.int (7 : Int32)), .val (.int (3 : Int32)), .val (.ref (A 4))] [(.int (3 : Int32))])) st10 ?_
  refine own_go (B := T10.setTop (mkF m 25 #[.val (.int (3 : Int32)), .val (.ref b1), .val (.int (7 : Int32)), .val (.int (3 : Int32)), .val (.ref (A 4))] [(.int (3 : Int32)), (.int (3 : Int32))])) (fun _ k => XS.iloadN X10.here hx rfl (hb hby d1_24) rfl k) ?_
  refine own_go (B := T10.setTop (mkF m 28 #[.val (.int (3 : Int32)), .val (.ref b1), .val (.int (7 : Int32)), .val (.int (3 : Int32)), .val (.ref (A 4))] [])) (fun _ k => XS.icmpNo X10.here hx rfl (hb hby d1_25) rfl (by decide) k) ?_
  refine own_go (B := T10.setTop (mkF m 30 #[.val (.int (3 : Int32)), .val (.ref b1), .val (.int (7 : Int32)), .val (.int (3 : Int32)), .val (.ref (A 4))] [(.ref (A 4))])) (fun _ k => XS.aload X10.here hx rfl (hb hby d1_28) rfl rfl k) ?_
  exact own_ret X10 hx (t := (.object "com/example/quorumhand/quorumhand/engine/BrokerState")) hrt rfl (Or.inr (Or.inr (Or.inr (Or.inr ⟨rfl, rfl, rfl⟩)))) (hb hby d1_30) hlk ⟨rfl, N1, by rw [e10]; exact E1⟩ (by decide) (by decide)
set_option maxRecDepth 65536 in
set_option maxHeartbeats 40000000 in
theorem rmO6 (l : Launch) (Z : State) (a0 : Array Value) (hw : ∀ d ∈ tables_1, d.before a0 Z = true) (ws : List Jvm.Cond) (A : Nat → Addr) (hW : own_W Z A) (h0 : Heap) (x0 : Ext Z.heap h0)  :
    own_Met l Z (⟨"com/example/quorumhand/quorumhand/engine/BrokerState", "of", "(I)Lcom/example/quorumhand/quorumhand/engine/BrokerState;"⟩ : MethodName) prog_4_method_5_code 5 (some (.object "com/example/quorumhand/quorumhand/engine/BrokerState")) ws ({ frames := 2, cells := 1, slots := 7, locals := 25 } : Room) #[(.int (6 : Int32))] h0 (fun v_ h_ L_ => v_ = some (.ref (A 5)) ∧ Fr Z.heap.size L_ ∧ Ext h0 h_) := by
  refine own_body (plainFor_of_name pn_0) fun p e s m below meth c s₁ hx hby hml hown hnm hlk hrt hZ X0 e0 => ?_
  have N0 := Fr.nil Z.heap.size
  have hW' := hW
  obtain ⟨-, -, -, -, -, -, -, -, -, -, -, -, -, -, -, -, -, F_NOT_RUNNING_value, -, -, F_STARTING_value, F_RECOVERY_value, F_RUNNING_value, F_PENDING_CONTROLLED_SHUTDOWN_value, -, -, -, -, -, -, -⟩ := hW'
  refine own_go (B := s₁.setTop (mkF m 0 #[.val (.int (6 : Int32)), .unset, .unset, .unset, .unset] [])) (fun t k => castTop (ef_1 m (6 : Int32)) k) ?_
  obtain ⟨_, _, ⟨T1, L1, k1, n1⟩, -, X1, ⟨Lc1, hQ1, l1, y1, z1⟩, st1⟩ := Jvm.LawKit.callS X0 hx (y := (⟨"com/example/quorumhand/quorumhand/engine/BrokerState", "values", "()[Lcom/example/quorumhand/quorumhand/engine/BrokerState;"⟩ : MethodName)) hown (mvT hZ (hw _ (List.mem_of_getElem? (i := 4) rfl))) (mvT hZ (hw _ (List.mem_of_getElem? (i := 5) rfl))) (mvT hZ (hw _ (List.mem_of_getElem? (i := 2) rfl))) (mvT hZ (hw _ (List.mem_of_getElem? (i := 6) rfl))) (by decide) (own_back (W := 0) (rmV l Z a0 hw [] A hW h0 x0) hZ (hw _ (List.mem_of_getElem? (i := 6) rfl)) (hw _ (List.mem_of_getElem? (i := 2) rfl)) (by decide) (by decide)) (g := (mkF m 0 #[.val (.int (6 : Int32)), .unset, .unset, .unset, .unset] [])) rfl (by rw [hml]; rfl) (argsL := []) (rest := []) (lenOf pd_0 rfl) rfl (by show 2 * 0 + _ ≤ _; exact Nat.le_of_eq rfl) (hb hby d1_0) (fun _ _ => ⟨rfl, e0, (by decide : 0 + 1 ≤ _), (by decide : 0 + 7 ≤ _)⟩)
  dsimp only [Pt.U, Pt.locs, Pt.cells, Pt.slots] at X1 l1 y1 z1 st1 hQ1
  subst l1 y1 z1
  obtain ⟨b1, k1', rfl, N1q, E1, V1⟩ := hQ1
  have N1 := Fr.app N0 N1q
  have x1 : Ext Z.heap T1.heap := own_xt x0 E1
  refine own_go (B := T1.setTop (mkF m 3 #[.val (.int (6 : Int32)), .unset, .unset, .unset, .unset] [(.ref b1)])) st1 ?_
  refine own_go (B := T1.setTop (mkF m 4 #[.val (.int (6 : Int32)), .val (.ref b1), .unset, .unset, .unset] [])) (fun _ k => XS.astoreN X1.here hx rfl (hb hby d1_3) rfl rfl (l' := #[.val (.int (6 : Int32)), .val (.ref b1), .unset, .unset, .unset]) rfl k) ?_
  refine own_go (B := T1.setTop (mkF m 5 #[.val (.int (6 : Int32)), .val (.ref b1), .unset, .unset, .unset] [(.ref b1)])) (fun _ k => XS.aloadN X1.here hx rfl (hb hby d1_4) rfl rfl k) ?_
  obtain ⟨cl2, Ar2, q2a, q2b, q2c, q2d, q2e⟩ := id V1
  refine own_go (B := T1.setTop (mkF m 6 #[.val (.int (6 : Int32)), .val (.ref b1), .unset, .unset, .unset] [(.int (7 : Int32))])) (fun _ k => X1.arraylength hx Ar2.1 (State.isArrayOf_alike hZ.alike Ar2.2.1) (g := (mkF m 5 #[.val (.int (6 : Int32)), .val (.ref b1), .unset, .unset, .unset] [(.ref b1)])) rfl rfl (hb hby d1_5) _ (by rw [len_of q2b q2c]; exact k)) ?_
  refine own_go (B := T1.setTop (mkF m 7 #[.val (.int (6 : Int32)), .val (.ref b1), .val (.int (7 : Int32)), .unset, .unset] [])) (fun _ k => XS.istoreN X1.here hx rfl (hb hby d1_6) rfl (l' := #[.val (.int (6 : Int32)), .val (.ref b1), .val (.int (7 : Int32)), .unset, .unset]) rfl k) ?_
  refine own_go (B := T1.setTop (mkF m 8 #[.val (.int (6 : Int32)), .val (.ref b1), .val (.int (7 : Int32)), .unset, .unset] [(.int (0 : Int32))])) (fun _ k => XT.iconstV X1.here hx rfl (0 : Int32) (hb hby d1_7) rfl k) ?_
  refine own_go (B := T1.setTop (mkF m 9 #[.val (.int (6 : Int32)), .val (.ref b1), .val (.int (7 : Int32)), .val (.int (0 : Int32)), .unset] [])) (fun _ k => XS.istoreN X1.here hx rfl (hb hby d1_8) rfl (l' := #[.val (.int (6 : Int32)), .val (.ref b1), .val (.int (7 : Int32)), .val (.int (0 : Int32)), .unset]) rfl k) ?_
  refine own_go (B := T1.setTop (mkF m 10 #[.val (.int (6 : Int32)), .val (.ref b1), .val (.int (7 : Int32)), .val (.int (0 : Int32)), .unset] [(.int (0 : Int32))])) (fun _ k => XS.iloadN X1.here hx rfl (hb hby d1_9) rfl k) ?_
  refine own_go (B := T1.setTop (mkF m 11 #[.val (.int (6 : Int32)), .val (.ref b1), .val (.int (7 : Int32)), .val (.int (0 : Int32)), .unset] [(.int (7 : Int32)), (.int (0 : Int32))])) (fun _ k => XS.iloadN X1.here hx rfl (hb hby d1_10) rfl k) ?_
  refine own_go (B := T1.setTop (mkF m 14 #[.val (.int (6 : Int32)), .val (.ref b1), .val (.int (7 : Int32)), .val (.int (0 : Int32)), .unset] [])) (fun _ k => XS.icmpNo X1.here hx rfl (hb hby d1_11) rfl (by decide) k) ?_
  refine own_go (B := T1.setTop (mkF m 15 #[.val (.int (6 : Int32)), .val (.ref b1), .val (.int (7 : Int32)), .val (.int (0 : Int32)), .unset] [(.ref b1)])) (fun _ k => XS.aloadN X1.here hx rfl (hb hby d1_14) rfl rfl k) ?_
  refine own_go (B := T1.setTop (mkF m 16 #[.val (.int (6 : Int32)), .val (.ref b1), .val (.int (7 : Int32)), .val (.int (0 : Int32)), .unset] [(.int (0 : Int32)), (.ref b1)])) (fun _ k => XS.iloadN X1.here hx rfl (hb hby d1_15) rfl k) ?_
  obtain ⟨cl3, Ar3, q3a, q3b, q3c, q3d, q3e⟩ := id V1
  have i3 := inb_of (j := (0 : Int32)) q3b ⟨by decide, by decide⟩
  refine own_go (B := T1.setTop (mkF m 17 #[.val (.int (6 : Int32)), .val (.ref b1), .val (.int (7 : Int32)), .val (.int (0 : Int32)), .unset] [(.ref (A 1))])) (fun _ k => X1.aaload hx (j := (0 : Int32)) (v := (.ref (A 1))) Ar3.1 (State.isArrayOf_alike hZ.alike Ar3.2.1) rfl Ar3.2.2 i3 (Has.at q3d i3 rfl) (g := (mkF m 16 #[.val (.int (6 : Int32)), .val (.ref b1), .val (.int (7 : Int32)), .val (.int (0 : Int32)), .unset] [(.int (0 : Int32)), (.ref b1)])) rfl rfl (hb hby d1_16) _ k) ?_
  refine own_go (B := T1.setTop (mkF m 19 #[.val (.int (6 : Int32)), .val (.ref b1), .val (.int (7 : Int32)), .val (.int (0 : Int32)), .val (.ref (A 1))] [])) (fun _ k => XS.astore X1.here hx rfl (hb hby d1_17) rfl rfl (l' := #[.val (.int (6 : Int32)), .val (.ref b1), .val (.int (7 : Int32)), .val (.int (0 : Int32)), .val (.ref (A 1))]) rfl k) ?_
  refine own_go (B := T1.setTop (mkF m 21 #[.val (.int (6 : Int32)), .val (.ref b1), .val (.int (7 : Int32)), .val (.int (0 : Int32)), .val (.ref (A 1))] [(.ref (A 1))])) (fun _ k => XS.aload X1.here hx rfl (hb hby d1_19) rfl rfl k) ?_
  obtain ⟨T4, X4, e4, st4⟩ := getF X1 hx hZ hown (host := "") (Or.inl (hw _ (List.mem_of_getElem? (i := 26) rfl))) Via.refl rfl (F_NOT_RUNNING_value.ext x1) (g := (mkF m 21 #[.val (.int (6 : Int32)), .val (.ref b1), .val (.int (7 : Int32)), .val (.int (0 : Int32)), .val (.ref (A 1))] [(.ref (A 1))])) rfl rfl (hb hby d1_21)
  refine own_go (B := T4.setTop (mkF m 24 #[.val (.int (6 : Int32)), .val (.ref b1), .val (.int (7 : Int32)), .val (.int (0 : Int32)), .val (.ref (A 1))] [(.int (0 : Int32))])) st4 ?_
  refine own_go (B := T4.setTop (mkF m 25 #[.val (.int (6 : Int32)), .val (.ref b1), .val (.int (7 : Int32)), .val (.int (0 : Int32)), .val (.ref (A 1))] [(.int (6 : Int32)), (.int (0 : Int32))])) (fun _ k => XS.iloadN X4.here hx rfl (hb hby d1_24) rfl k) ?_
  refine own_go (B := T4.setTop (mkF m 31 #[.val (.int (6 : Int32)), .val (.ref b1), .val (.int (7 : Int32)), .val (.int (0 : Int32)), .val (.ref (A 1))] [])) (fun _ k => XS.icmpYes X4.here hx rfl (pc0 := 25) (pc' := 31) rfl (hb hby d1_25) rfl (by decide) (by decide) (by decide) k) ?_
  refine own_go (B := T4.setTop (mkF m 34 #[.val (.int (6 : Int32)), .val (.ref b1), .val (.int (7 : Int32)), .val (.int ((0 : Int32) + (1 : Int32))), .val (.ref (A 1))] [])) (fun _ k => XT.iincV X4.here hx rfl (1 : Int32) (hb hby d1_31) rfl rfl (l' := #[.val (.int (6 : Int32)), .val (.ref b1), .val (.int (7 : Int32)), .val (.int ((0 : Int32) + (1 : Int32))), .val (.ref (A 1))]) rfl k) ?_
  rw [(by decide +kernel : ((0 : Int32) + (1 : Int32)) = (1 : Int32))]
  refine own_go (B := T4.setTop (mkF m 9 #[.val (.int (6 : Int32)), .val (.ref b1), .val (.int (7 : Int32)), .val (.int (1 : Int32)), .val (.ref (A 1))] [])) (fun _ k => XS.goto X4.here hx rfl (pc0 := 34) (pc' := 9) rfl (hb hby d1_34) (by decide) (by decide) k) ?_
  refine own_go (B := T4.setTop (mkF m 10 #[.val (.int (6 : Int32)), .val (.ref b1), .val (.int (7 : Int32)), .val (.int (1 : Int32)), .val (.ref (A 1))] [(.int (1 : Int32))])) (fun _ k => XS.iloadN X4.here hx rfl (hb hby d1_9) rfl k) ?_
  refine own_go (B := T4.setTop (mkF m 11 #[.val (.int (6 : Int32)), .val (.ref b1), .val (.int (7 : Int32)), .val (.int (1 : Int32)), .val (.ref (A 1))] [(.int (7 : Int32)), (.int (1 : Int32))])) (fun _ k => XS.iloadN X4.here hx rfl (hb hby d1_10) rfl k) ?_
  refine own_go (B := T4.setTop (mkF m 14 #[.val (.int (6 : Int32)), .val (.ref b1), .val (.int (7 : Int32)), .val (.int (1 : Int32)), .val (.ref (A 1))] [])) (fun _ k => XS.icmpNo X4.here hx rfl (hb hby d1_11) rfl (by decide) k) ?_
  refine own_go (B := T4.setTop (mkF m 15 #[.val (.int (6 : Int32)), .val (.ref b1), .val (.int (7 : Int32)), .val (.int (1 : Int32)), .val (.ref (A 1))] [(.ref b1)])) (fun _ k => XS.aloadN X4.here hx rfl (hb hby d1_14) rfl rfl k) ?_
  refine own_go (B := T4.setTop (mkF m 16 #[.val (.int (6 : Int32)), .val (.ref b1), .val (.int (7 : Int32)), .val (.int (1 : Int32)), .val (.ref (A 1))] [(.int (1 : Int32)), (.ref b1)])) (fun _ k => XS.iloadN X4.here hx rfl (hb hby d1_15) rfl k) ?_
  obtain ⟨cl5, Ar5, q5a, q5b, q5c, q5d, q5e⟩ := id V1
  have i5 := inb_of (j := (1 : Int32)) q5b ⟨by decide, by decide⟩
  refine own_go (B := T4.setTop (mkF m 17 #[.val (.int (6 : Int32)), .val (.ref b1), .val (.int (7 : Int32)), .val (.int (1 : Int32)), .val (.ref (A 1))] [(.ref (A 2))])) (fun _ k => X4.aaload hx (j := (1 : Int32)) (v := (.ref (A 2))) (by rw [e4]; exact Ar5.1) (State.isArrayOf_alike hZ.alike Ar5.2.1) rfl Ar5.2.2 i5 (Has.at q5d i5 rfl) (g := (mkF m 16 #[.val (.int (6 : Int32)), .val (.ref b1), .val (.int (7 : Int32)), .val (.int (1 : Int32)), .val (.ref (A 1))] [(.int (1 : Int32)), (.ref b1)])) rfl rfl (hb hby d1_16) _ k) ?_
  refine own_go (B := T4.setTop (mkF m 19 #[.val (.int (6 : Int32)), .val (.ref b1), .val (.int (7 : Int32)), .val (.int (1 : Int32)), .val (.ref (A 2))] [])) (fun _ k => XS.astore X4.here hx rfl (hb hby d1_17) rfl rfl (l' := #[.val (.int (6 : Int32)), .val (.ref b1), .val (.int (7 : Int32)), .val (.int (1 : Int32)), .val (.ref (A 2))]) rfl k) ?_
  refine own_go (B := T4.setTop (mkF m 21 #[.val (.int (6 : Int32)), .val (.ref b1), .val (.int (7 : Int32)), .val (.int (1 : Int32)), .val (.ref (A 2))] [(.ref (A 2))])) (fun _ k => XS.aload X4.here hx rfl (hb hby d1_19) rfl rfl k) ?_
  obtain ⟨T6, X6, e6, st6⟩ := getF X4 hx hZ hown (host := "") (Or.inl (hw _ (List.mem_of_getElem? (i := 26) rfl))) Via.refl e4 (F_STARTING_value.ext x1) (g := (mkF m 21 #[.val (.int (6 : Int32)), .val (.ref b1), .val (.int (7 : Int32)), .val (.int (1 : Int32)), .val (.ref (A 2))] [(.ref (A 2))])) rfl rfl (hb hby d1_21)
  refine own_go (B := T6.setTop (mkF m 24 #[.val (.int (6 : Int32)), .val (.ref b1), .val (.int (7 : Int32)), .val (.int (1 : Int32)), .val (.ref (A 2))] [(.int (1 : Int32))])) st6 ?_
  refine own_go (B := T6.setTop (mkF m 25 #[.val (.int (6 : Int32)), .val (.ref b1), .val (.int (7 : Int32)), .val (.int (1 : Int32)), .val (.ref (A 2))] [(.int (6 : Int32)), (.int (1 : Int32))])) (fun _ k => XS.iloadN X6.here hx rfl (hb hby d1_24) rfl k) ?_
  refine own_go (B := T6.setTop (mkF m 31 #[.val (.int (6 : Int32)), .val (.ref b1), .val (.int (7 : Int32)), .val (.int (1 : Int32)), .val (.ref (A 2))] [])) (fun _ k => XS.icmpYes X6.here hx rfl (pc0 := 25) (pc' := 31) rfl (hb hby d1_25) rfl (by decide) (by decide) (by decide) k) ?_
  refine own_go (B := T6.setTop (mkF m 34 #[.val (.int (6 : Int32)), .val (.ref b1), .val (.int (7 : Int32)), .val (.int ((1 : Int32) + (1 : Int32))), .val (.ref (A 2))] [])) (fun _ k => XT.iincV X6.here hx rfl (1 : Int32) (hb hby d1_31) rfl rfl (l' := #[.val (.int (6 : Int32)), .val (.ref b1), .val (.int (7 : Int32)), .val (.int ((1 : Int32) + (1 : Int32))), .val (.ref (A 2))]) rfl k) ?_
  rw [(by decide +kernel : ((1 : Int32) + (1 : Int32)) = (2 : Int32))]
  refine own_go (B := T6.setTop (mkF m 9 #[.val (.int (6 : Int32)), .val (.ref b1), .val (.int (7 : Int32)), .val (.int (2 : Int32)), .val (.ref (A 2))] [])) (fun _ k => XS.goto X6.here hx rfl (pc0 := 34) (pc' := 9) rfl (hb hby d1_34) (by decide) (by decide) k) ?_
  refine own_go (B := T6.setTop (mkF m 10 #[.val (.int (6 : Int32)), .val (.ref b1), .val (.int (7 : Int32)), .val (.int (2 : Int32)), .val (.ref (A 2))] [(.int (2 : Int32))])) (fun _ k => XS.iloadN X6.here hx rfl (hb hby d1_9) rfl k) ?_
  refine own_go (B := T6.setTop (mkF m 11 #[.val (.int (6 : Int32)), .val (.ref b1), .val (.int (7 : Int32)), .val (.int (2 : Int32)), .val (.ref (A 2))] [(.int (7 : Int32)), (.int (2 : Int32))])) (fun _ k => XS.iloadN X6.here hx rfl (hb hby d1_10) rfl k) ?_
  refine own_go (B := T6.setTop (mkF m 14 #[.val (.int (6 : Int32)), .val (.ref b1), .val (.int (7 : Int32)), .val (.int (2 : Int32)), .val (.ref (A 2))] [])) (fun _ k => XS.icmpNo X6.here hx rfl (hb hby d1_11) rfl (by decide) k) ?_
  refine own_go (B := T6.setTop (mkF m 15 #[.val (.int (6 : Int32)), .val (.ref b1), .val (.int (7 : Int32)), .val (.int (2 : Int32)), .val (.ref (A 2))] [(.ref b1)])) (fun _ k => XS.aloadN X6.here hx rfl (hb hby d1_14) rfl rfl k) ?_
  refine own_go (B := T6.setTop (mkF m 16 #[.val (.int (6 : Int32)), .val (.ref b1), .val (.int (7 : Int32)), .val (.int (2 : Int32)), .val (.ref (A 2))] [(.int (2 : Int32)), (.ref b1)])) (fun _ k => XS.iloadN X6.here hx rfl (hb hby d1_15) rfl k) ?_
  obtain ⟨cl7, Ar7, q7a, q7b, q7c, q7d, q7e⟩ := id V1
  have i7 := inb_of (j := (2 : Int32)) q7b ⟨by decide, by decide⟩
  refine own_go (B := T6.setTop (mkF m 17 #[.val (.int (6 : Int32)), .val (.ref b1), .val (.int (7 : Int32)), .val (.int (2 : Int32)), .val (.ref (A 2))] [(.ref (A 3))])) (fun _ k => X6.aaload hx (j := (2 : Int32)) (v := (.ref (A 3))) (by rw [e6]; exact Ar7.1) (State.isArrayOf_alike hZ.alike Ar7.2.1) rfl Ar7.2.2 i7 (Has.at q7d i7 rfl) (g := (mkF m 16 #[.val (.int (6 : Int32)), .val (.ref b1), .val (.int (7 : Int32)), .val (.int (2 : Int32)), .val (.ref (A 2))] [(.int (2 : Int32)), (.ref b1)])) rfl rfl (hb hby d1_16) _ k) ?_
  refine own_go (B := T6.setTop (mkF m 19 #[.val (.int (6 : Int32)), .val (.ref b1), .val (.int (7 : Int32)), .val (.int (2 : Int32)), .val (.ref (A 3))] [])) (fun _ k => XS.astore X6.here hx rfl (hb hby d1_17) rfl rfl (l' := #[.val (.int (6 : Int32)), .val (.ref b1), .val (.int (7 : Int32)), .val (.int (2 : Int32)), .val (.ref (A 3))]) rfl k) ?_
  refine own_go (B := T6.setTop (mkF m 21 #[.val (.int (6 : Int32)), .val (.ref b1), .val (.int (7 : Int32)), .val (.int (2 : Int32)), .val (.ref (A 3))] [(.ref (A 3))])) (fun _ k => XS.aload X6.here hx rfl (hb hby d1_19) rfl rfl k) ?_
  obtain ⟨T8, X8, e8, st8⟩ := getF X6 hx hZ hown (host := "") (Or.inl (hw _ (List.mem_of_getElem? (i := 26) rfl))) Via.refl e6 (F_RECOVERY_value.ext x1) (g := (mkF m 21 #[.val (.int (6 : Int32)), .val (.ref b1), .val (.int (7 : Int32)), .val (.int (2 : Int32)), .val (.ref (A 3))] [(.ref (A 3))])) rfl rfl (hb hby d1_21)
  refine own_go (B := T8.setTop (mkF m 24 #[.val (.int (6 : Int32)), .val (.ref b1), .val (.int (7 : Int32)), .val (.int (2 : Int32)), .val (.ref (A 3))] [(.int (2 : Int32))])) st8 ?_
  refine own_go (B := T8.setTop (mkF m 25 #[.val (.int (6 : Int32)), .val (.ref b1), .val (.int (7 : Int32)), .val (.int (2 : Int32)), .val (.ref (A 3))] [(.int (6 : Int32)), (.int (2 : Int32))])) (fun _ k => XS.iloadN X8.here hx rfl (hb hby d1_24) rfl k) ?_
  refine own_go (B := T8.setTop (mkF m 31 #[.val (.int (6 : Int32)), .val (.ref b1), .val (.int (7 : Int32)), .val (.int (2 : Int32)), .val (.ref (A 3))] [])) (fun _ k => XS.icmpYes X8.here hx rfl (pc0 := 25) (pc' := 31) rfl (hb hby d1_25) rfl (by decide) (by decide) (by decide) k) ?_
  refine own_go (B := T8.setTop (mkF m 34 #[.val (.int (6 : Int32)), .val (.ref b1), .val (.int (7 : Int32)), .val (.int ((2 : Int32) + (1 : Int32))), .val (.ref (A 3))] [])) (fun _ k => XT.iincV X8.here hx rfl (1 : Int32) (hb hby d1_31) rfl rfl (l' := #[.val (.int (6 : Int32)), .val (.ref b1), .val (.int (7 : Int32)), .val (.int ((2 : Int32) + (1 : Int32))), .val (.ref (A 3))]) rfl k) ?_
  rw [(by decide +kernel : ((2 : Int32) + (1 : Int32)) = (3 : Int32))]
  refine own_go (B := T8.setTop (mkF m 9 #[.val (.int (6 : Int32)), .val (.ref b1), .val (.int (7 : Int32)), .val (.int (3 : Int32)), .val (.ref (A 3))] [])) (fun _ k => XS.goto X8.here hx rfl (pc0 := 34) (pc' := 9) rfl (hb hby d1_34) (by decide) (by decide) k) ?_
  refine own_go (B := T8.setTop (mkF m 10 #[.val (.int (6 : Int32)), .val (.ref b1), .val (.int (7 : Int32)), .val (.int (3 : Int32)), .val (.ref (A 3))] [(.int (3 : Int32))])) (fun _ k => XS.iloadN X8.here hx rfl (hb hby d1_9) rfl k) ?_
  refine own_go (B := T8.setTop (mkF m 11 #[.val (.int (6 : Int32)), .val (.ref b1), .val (.int (7 : Int32)), .val (.int (3 : Int32)), .val (.ref (A 3))] [(.int (7 : Int32)), (.int (3 : Int32))])) (fun _ k => XS.iloadN X8.here hx rfl (hb hby d1_10) rfl k) ?_
  refine own_go (B := T8.setTop (mkF m 14 #[.val (.int (6 : Int32)), .val (.ref b1), .val (.int (7 : Int32)), .val (.int (3 : Int32)), .val (.ref (A 3))] [])) (fun _ k => XS.icmpNo X8.here hx rfl (hb hby d1_11) rfl (by decide) k) ?_
  refine own_go (B := T8.setTop (mkF m 15 #[.val (.int (6 : Int32)), .val (.ref b1), .val (.int (7 : Int32)), .val (.int (3 : Int32)), .val (.ref (A 3))] [(.ref b1)])) (fun _ k => XS.aloadN X8.here hx rfl (hb hby d1_14) rfl rfl k) ?_
  refine own_go (B := T8.setTop (mkF m 16 #[.val (.int (6 : Int32)), .val (.ref b1), .val (.int (7 : Int32)), .val (.int (3 : Int32)), .val (.ref (A 3))] [(.int (3 : Int32)), (.ref b1)])) (fun _ k => XS.iloadN X8.here hx rfl (hb hby d1_15) rfl k) ?_
  obtain ⟨cl9, Ar9, q9a, q9b, q9c, q9d, q9e⟩ := id V1
  have i9 := inb_of (j := (3 : Int32)) q9b ⟨by decide, by decide⟩
  refine own_go (B := T8.setTop (mkF m 17 #[.val (.int (6 : Int32)), .val (.ref b1), .val (.int (7 : Int32)), .val (.int (3 : Int32)), .val (.ref (A 3))] [(.ref (A 4))])) (fun _ k => X8.aaload hx (j := (3 : Int32)) (v := (.ref (A 4))) (by rw [e8]; exact Ar9.1) (State.isArrayOf_alike hZ.alike Ar9.2.1) rfl Ar9.2.2 i9 (Has.at q9d i9 rfl) (g := (mkF m 16 #[.val (.int (6 : Int32)), .val (.ref b1), .val (.int (7 : Int32)), .val (.int (3 : Int32)), .val (.ref (A 3))] [(.int (3 : Int32)), (.ref b1)])) rfl rfl (hb hby d1_16) _ k) ?_
  refine own_go (B := T8.setTop (mkF m 19 #[.val (.int (6 : Int32)), .val (.ref b1), .val (.int (7 : Int32)), .val (.int (3 : Int32)), .val (.ref (A 4))] [])) (fun _ k => XS.astore X8.here hx rfl (hb hby d1_17) rfl rfl (l' := #[.val (.int (6 : Int32)), .val (.ref b1), .val (.int (7 : Int32)), .val (.int (3 : Int32)), .val (.ref (A 4))]) rfl k) ?_
  refine own_go (B := T8.setTop (mkF m 21 #[.val (.int (6 : Int32)), .val (.ref b1), .val (.int (7 : Int32)), .val (.int (3 : Int32)), .val (.ref (A 4))] [(.ref (A 4))])) (fun _ k => XS.aload X8.here hx rfl (hb hby d1_19) rfl rfl k) ?_
  obtain ⟨T10, X10, e10, st10⟩ := getF X8 hx hZ hown (host := "") (Or.inl (hw _ (List.mem_of_getElem? (i := 26) rfl))) Via.refl e8 (F_RUNNING_value.ext x1) (g := (mkF m 21 #[.val (.int (6 : Int32)), .val (.ref b1), .val (.int (7 : Int32)), .val (.int (3 : Int32)), .val (.ref (A 4))] [(.ref (A 4))])) rfl rfl (hb hby d1_21)
  refine own_go (B := T10.setTop (mkF m 24 #[.val (.int (6 : Int32)), .val (.ref b1), .val (.int (7 : Int32)), .val (.int (3 : Int32)), .val (.ref (A 4))] [(.int (3 : Int32))])) st10 ?_
  refine own_go (B := T10.setTop (mkF m 25 #[.val (.int (6 : Int32)), .val (.ref b1), .val (.int (7 : Int32)), .val (.int (3 : Int32)), .val (.ref (A 4))] [(.int (6 : Int32)), (.int (3 : Int32))])) (fun _ k => XS.iloadN X10.here hx rfl (hb hby d1_24) rfl k) ?_
  refine own_go (B := T10.setTop (mkF m 31 #[.val (.int (6 : Int32)), .val (.ref b1), .val (.int (7 : Int32)), .val (.int (3 : Int32)), .val (.ref (A 4))] [])) (fun _ k => XS.icmpYes X10.here hx rfl (pc0 := 25) (pc' := 31) rfl (hb hby d1_25) rfl (by decide) (by decide) (by decide) k) ?_
  refine own_go (B := T10.setTop (mkF m 34 #[.val (.int (6 : Int32)), .val (.ref b1), .val (.int (7 : Int32)), .val (.int ((3 : Int32) + (1 : Int32))), .val (.ref (A 4))] [])) (fun _ k => XT.iincV X10.here hx rfl (1 : Int32) (hb hby d1_31) rfl rfl (l' := #[.val (.int (6 : Int32)), .val (.ref b1), .val (.int (7 : Int32)), .val (.int ((3 : Int32) + (1 : Int32))), .val (.ref (A 4))]) rfl k) ?_
  rw [(by decide +kernel : ((3 : Int32) + (1 : Int32)) = (4 : Int32))]
  refine own_go (B := T10.setTop (mkF m 9 #[.val (.int (6 : Int32)), .val (.ref b1), .val (.int (7 : Int32)), .val (.int (4 : Int32)), .val (.ref (A 4))] [])) (fun _ k => XS.goto X10.here hx rfl (pc0 := 34) (pc' := 9) rfl (hb hby d1_34) (by decide) (by decide) k) ?_
  refine own_go (B := T10.setTop (mkF m 10 #[.val (.int (6 : Int32)), .val (.ref b1), .val (.int (7 : Int32)), .val (.int (4 : Int32)), .val (.ref (A 4))] [(.int (4 : Int32))])) (fun _ k => XS.iloadN X10.here hx rfl (hb hby d1_9) rfl k) ?_
  refine own_go (B := T10.setTop (mkF m 11 #[.val (.int (6 : Int32)), .val (.ref b1), .val (.int (7 : Int32)), .val (.int (4 : Int32)), .val (.ref (A 4))] [(.int (7 : Int32)), (.int (4 : Int32))])) (fun _ k => XS.iloadN X10.here hx rfl (hb hby d1_10) rfl k) ?_
  refine own_go (B := T10.setTop (mkF m 14 #[.val (.int (6 : Int32)), .val (.ref b1), .val (.int (7 : Int32)), .val (.int (4 : Int32)), .val (.ref (A 4))] [])) (fun _ k => XS.icmpNo X10.here hx rfl (hb hby d1_11) rfl (by decide) k) ?_
  refine own_go (B := T10.setTop (mkF m 15 #[.val (.int (6 : Int32)), .val (.ref b1), .val (.int (7 : Int32)), .val (.int (4 : Int32)), .val (.ref (A 4))] [(.ref b1)])) (fun _ k => XS.aloadN X10.here hx rfl (hb hby d1_14) rfl rfl k) ?_
  refine own_go (B := T10.setTop (mkF m 16 #[.val (.int (6 : Int32)), .val (.ref b1), .val (.int (7 : Int32)), .val (.int (4 : Int32)), .val (.ref (A 4))] [(.int (4 : Int32)), (.ref b1)])) (fun _ k => XS.iloadN X10.here hx rfl (hb hby d1_15) rfl k) ?_
  obtain ⟨cl11, Ar11, q11a, q11b, q11c, q11d, q11e⟩ := id V1
  have i11 := inb_of (j := (4 : Int32)) q11b ⟨by decide, by decide⟩
  refine own_go (B := T10.setTop (mkF m 17 #[.val (.int (6 : Int32)), .val (.ref b1), .val (.int (7 : Int32)), .val (.int (4 : Int32)), .val (.ref (A 4))] [(.ref (A 5))])) (fun _ k => X10.aaload hx (j := (4 : Int32)) (v := (.ref (A 5))) (by rw [e10]; exact Ar11.1) (State.isArrayOf_alike hZ.alike Ar11.2.1) rfl Ar11.2.2 i11 (Has.at q11d i11 rfl) (g := (mkF m 16 #[.val (.int (6 : Int32)), .val (.ref b1), .val (.int (7 : Int32)), .val (.int (4 : Int32)), .val (.ref (A 4))] [(.int (4 : Int32)), (.ref b1)])) rfl rfl (hb hby d1_16) _ k) ?_
  refine own_go (B := T10.setTop (mkF m 19 #[.val (.int (6 : Int32)), .val (.ref b1), .val (.int (7 : Int32)), .val (.int (4 : Int32)), .val (.ref (A 5))] [])) (fun _ k => XS.astore X10.here hx rfl (hb hby d1_17) rfl rfl (l' := #[.val (.int (6 : Int32)), .val (.ref b1), .val (.int (7 : Int32)), .val (.int (4 : Int32)), .val (.ref (A 5))]) rfl k) ?_
  refine own_go (B := T10.setTop (mkF m 21 #[.val (.int (6 : Int32)), .val (.ref b1), .val (.int (7 : Int32)), .val (.int (4 : Int32)), .val (.ref (A 5))] [(.ref (A 5))])) (fun _ k => XS.aload X10.here hx rfl (hb hby d1_19) rfl rfl k) ?_
  obtain ⟨T12, X12, e12, st12⟩ := getF X10 hx hZ hown (host := "") (Or.inl (hw _ (List.mem_of_getElem? (i := 26) rfl))) Via.refl e10 (F_PENDING_CONTROLLED_SHUTDOWN_value.ext x1) (g := (mkF m 21 #[.val (.int (6 : Int32)), .val (.ref b1), .val (.int (7 : Int32)), .val (.int (4 : Int32)), .val (.ref (A 5))] [(.ref (A 5))])) rfl rfl (hb hby d1_21)
  refine own_go (B := T12.setTop (mkF m 24 #[.val (.int (6 : Int32)), .val (.ref b1), .val (.int (7 : Int32)), .val (.int (4 : Int32)), .val (.ref (A 5))] [(.int (6 : Int32))])) st12 ?_
  refine own_go (B := T12.setTop (mkF m 25 #[.val (.int (6 : Int32)), .val (.ref b1), .val (.int (7 : Int32)), .val (.int (4 : Int32)), .val (.ref (A 5))] [(.int (6 : Int32)), (.int (6 : Int32))])) (fun _ k => XS.iloadN X12.here hx rfl (hb hby d1_24) rfl k) ?_
  refine own_go (B := T12.setTop (mkF m 28 #[.val (.int (6 : Int32)), .val (.ref b1), .val (.int (7 : Int32)), .val (.int (4 : Int32)), .val (.ref (A 5))] [])) (fun _ k => XS.icmpNo X12.here hx rfl (hb hby d1_25) rfl (by decide) k) ?_
  refine own_go (B := T12.setTop (mkF m 30 #[.val (.int (6 : Int32)), .val (.ref b1), .val (.int (7 : Int32)), .val (.int (4 : Int32)), .val (.ref (A 5))] [(.ref (A 5))])) (fun _ k => XS.aload X12.here hx rfl (hb hby d1_28) rfl rfl k) ?_
  exact own_ret X12 hx (t := (.object "com/example/quorumhand/quorumhand/engine/BrokerState")) hrt rfl (Or.inr (Or.inr (Or.inr (Or.inr ⟨rfl, rfl, rfl⟩)))) (hb hby d1_30) hlk ⟨rfl, N1, by rw [e12]; exact E1⟩ (by decide) (by decide)
set_option maxRecDepth 65536 in
set_option maxHeartbeats 40000000 in
theorem rmO7 (l : Launch) (Z : State) (a0 : Array Value) (hw : ∀ d ∈ tables_1, d.before a0 Z = true) (ws : List Jvm.Cond) (A : Nat → Addr) (hW : own_W Z A) (h0 : Heap) (x0 : Ext Z.heap h0)  :
    own_Met l Z (⟨"com/example/quorumhand/quorumhand/engine/BrokerState", "of", "(I)Lcom/example/quorumhand/quorumhand/engine/BrokerState;"⟩ : MethodName) prog_4_method_5_code 5 (some (.object "com/example/quorumhand/quorumhand/engine/BrokerState")) ws ({ frames := 2, cells := 1, slots := 7, locals := 25 } : Room) #[(.int (7 : Int32))] h0 (fun v_ h_ L_ => v_ = some (.ref (A 6)) ∧ Fr Z.heap.size L_ ∧ Ext h0 h_) := by
  refine own_body (plainFor_of_name pn_0) fun p e s m below meth c s₁ hx hby hml hown hnm hlk hrt hZ X0 e0 => ?_
  have N0 := Fr.nil Z.heap.size
  have hW' := hW
  obtain ⟨-, -, -, -, -, -, -, -, -, -, -, -, -, -, -, -, -, F_NOT_RUNNING_value, -, -, F_STARTING_value, F_RECOVERY_value, F_RUNNING_value, F_PENDING_CONTROLLED_SHUTDOWN_value, F_SHUTTING_DOWN_value, -, -, -, -, -, -⟩ := hW'
  refine own_go (B := s₁.setTop (mkF m 0 #[.val (.int (7 : Int32)), .unset, .unset, .unset, .unset] [])) (fun t k => castTop (ef_1 m (7 : Int32)) k) ?_
  obtain ⟨_, _, ⟨T1, L1, k1, n1⟩, -, X1, ⟨Lc1, hQ1, l1, y1, z1⟩, st1⟩ := Jvm.LawKit.callS X0 hx (y := (⟨"com/example/quorumhand/quorumhand/engine/BrokerState", "values", "()[Lcom/example/quorumhand/quorumhand/engine/BrokerState;"⟩ : MethodName)) hown (mvT hZ (hw _ (List.mem_of_getElem? (i := 4) rfl))) (mvT hZ (hw _ (List.mem_of_getElem? (i := 5) rfl))) (mvT hZ (hw _ (List.mem_of_getElem? (i := 2) rfl))) (mvT hZ (hw _ (List.mem_of_getElem? (i := 6) rfl))) (by decide) (own_back (W := 0) (rmV l Z a0 hw [] A hW h0 x0) hZ (hw _ (List.mem_of_getElem? (i := 6) rfl)) (hw _ (List.mem_of_getElem? (i := 2) rfl)) (by decide) (by decide)) (g := (mkF m 0 #[.val (.int (7 : Int32)), .unset, .unset, .unset, .unset] [])) rfl (by rw [hml]; rfl) (argsL := []) (rest := []) (lenOf pd_0 rfl) rfl (by show 2 * 0 + _ ≤ _; exact Nat.le_of_eq rfl) (hb hby d1_0) (fun _ _ => ⟨rfl, e0, (by decide : 0 + 1 ≤ _), (by decide : 0 + 7 ≤ _)⟩)
  dsimp only [Pt.U, Pt.locs, Pt.cells, Pt.slots] at X1 l1 y1 z1 st1 hQ1
  subst l1 y1 z1
  obtain ⟨b1, k1', rfl, N1q, E1, V1⟩ := hQ1
  have N1 := Fr.app N0 N1q
  have x1 : Ext Z.heap T1.heap := own_xt x0 E1
  refine own_go (B := T1.setTop (mkF m 3 #[.val (.int (7 : Int32)), .unset, .unset, .unset, .unset] [(.ref b1)])) st1 ?_
  refine own_go (B := T1.setTop (mkF m 4 #[.val (.int (7 : Int32)), .val (.ref b1), .unset, .unset, .unset] [])) (fun _ k => XS.astoreN X1.here hx rfl (hb hby d1_3) rfl rfl (l' := #[.val (.int (7 : Int32)), .val (.ref b1), .unset, .unset, .unset]) rfl k) ?_
  refine own_go (B := T1.setTop (mkF m 5 #[.val (.int (7 : Int32)), .val (.ref b1), .unset, .unset, .unset] [(.ref b1)])) (fun _ k => XS.aloadN X1.here hx rfl (hb hby d1_4) rfl rfl k) ?_
  obtain ⟨cl2, Ar2, q2a, q2b, q2c, q2d, q2e⟩ := id V1
  refine own_go (B := T1.setTop (mkF m 6 #[.val (.int (7 : Int32)), .val (.ref b1), .unset, .unset, .unset] [(.int (7 : Int32))])) (fun _ k => X1.arraylength hx Ar2.1 (State.isArrayOf_alike hZ.alike Ar2.2.1) (g := (mkF m 5 #[.val (.int (7 : Int32)), .val (.ref b1), .unset, .unset, .unset] [(.ref b1)])) rfl rfl (hb hby d1_5) _ (by rw [len_of q2b q2c]; exact k)) ?_
  refine own_go (B := T1.setTop (mkF m 7 #[.val (.int (7 : Int32)), .val (.ref b1), .val (.int (7 : Int32)), .unset, .unset] [])) (fun _ k => XS.istoreN X1.here hx rfl (hb hby d1_6) rfl (l' := #[.val (.int (7 : Int32)), .val (.ref b1), .val (.int (7 : Int32)), .unset, .unset]) rfl k) ?_
  refine own_go (B := T1.setTop (mkF m 8 #[.val (.int (7 : Int32)), .val (.ref b1), .val (.int (7 : Int32)), .unset, .unset] [(.int (0 : Int32))])) (fun _ k => XT.iconstV X1.here hx rfl (0 : Int32) (hb hby d1_7) rfl k) ?_
  refine own_go (B := T1.setTop (mkF m 9 #[.val (.int (7 : Int32)), .val (.ref b1), .val (.int (7 : Int32)), .val (.int (0 : Int32)), .unset] [])) (fun _ k => XS.istoreN X1.here hx rfl (hb hby d1_8) rfl (l' := #[.val (.int (7 : Int32)), .val (.ref b1), .val (.int (7 : Int32)), .val (.int (0 : Int32)), .unset]) rfl k) ?_
  refine own_go (B := T1.setTop (mkF m 10 #[.val (.int (7 : Int32)), .val (.ref b1), .val (.int (7 : Int32)), .val (.int (0 : Int32)), .unset] [(.int (0 : Int32))])) (fun _ k => XS.iloadN X1.here hx rfl (hb hby d1_9) rfl k) ?_
  refine own_go (B := T1.setTop (mkF m 11 #[.val (.int (7 : Int32)), .val (.ref b1), .val (.int (7 : Int32)), .val (.int (0 : Int32)), .unset] [(.int (7 : Int32)), (.int (0 : Int32))])) (fun _ k => XS.iloadN X1.here hx rfl (hb hby d1_10) rfl k) ?_
  refine own_go (B := T1.setTop (mkF m 14 #[.val (.int (7 : Int32)), .val (.ref b1), .val (.int (7 : Int32)), .val (.int (0 : Int32)), .unset] [])) (fun _ k => XS.icmpNo X1.here hx rfl (hb hby d1_11) rfl (by decide) k) ?_
  refine own_go (B := T1.setTop (mkF m 15 #[.val (.int (7 : Int32)), .val (.ref b1), .val (.int (7 : Int32)), .val (.int (0 : Int32)), .unset] [(.ref b1)])) (fun _ k => XS.aloadN X1.here hx rfl (hb hby d1_14) rfl rfl k) ?_
  refine own_go (B := T1.setTop (mkF m 16 #[.val (.int (7 : Int32)), .val (.ref b1), .val (.int (7 : Int32)), .val (.int (0 : Int32)), .unset] [(.int (0 : Int32)), (.ref b1)])) (fun _ k => XS.iloadN X1.here hx rfl (hb hby d1_15) rfl k) ?_
  obtain ⟨cl3, Ar3, q3a, q3b, q3c, q3d, q3e⟩ := id V1
  have i3 := inb_of (j := (0 : Int32)) q3b ⟨by decide, by decide⟩
  refine own_go (B := T1.setTop (mkF m 17 #[.val (.int (7 : Int32)), .val (.ref b1), .val (.int (7 : Int32)), .val (.int (0 : Int32)), .unset] [(.ref (A 1))])) (fun _ k => X1.aaload hx (j := (0 : Int32)) (v := (.ref (A 1))) Ar3.1 (State.isArrayOf_alike hZ.alike Ar3.2.1) rfl Ar3.2.2 i3 (Has.at q3d i3 rfl) (g := (mkF m 16 #[.val (.int (7 : Int32)), .val (.ref b1), .val (.int (7 : Int32)), .val (.int (0 : Int32)), .unset] [(.int (0 : Int32)), (.ref b1)])) rfl rfl (hb hby d1_16) _ k) ?_
  refine own_go (B := T1.setTop (mkF m 19 #[.val (.int (7 : Int32)), .val (.ref b1), .val (.int (7 : Int32)), .val (.int (0 : Int32)), .val (.ref (A 1))] [])) (fun _ k => XS.astore X1.here hx rfl (hb hby d1_17) rfl rfl (l' := #[.val (.int (7 : Int32)), .val (.ref b1), .val (.int (7 : Int32)), .val (.int (0 : Int32)), .val (.ref (A 1))]) rfl k) ?_
  refine own_go (B := T1.setTop (mkF m 21 #[.val (.int (7 : Int32)), .val (.ref b1), .val (.int (7 : Int32)), .val (.int (0 : Int32)), .val (.ref (A 1))] [(.ref (A 1))])) (fun _ k => XS.aload X1.here hx rfl (hb hby d1_19) rfl rfl k) ?_
  obtain ⟨T4, X4, e4, st4⟩ := getF X1 hx hZ hown (host := "") (Or.inl (hw _ (List.mem_of_getElem? (i := 26) rfl))) Via.refl rfl (F_NOT_RUNNING_value.ext x1) (g := (mkF m 21 #[.val (.int (7 : Int32)), .val (.ref b1), .val (.int (7 : Int32)), .val (.int (0 : Int32)), .val (.ref (A 1))] [(.ref (A 1))])) rfl rfl (hb hby d1_21)
  refine own_go (B := T4.setTop (mkF m 24 #[.val (.int (7 : Int32)), .val (.ref b1), .val (.int (7 : Int32)), .val (.int (0 : Int32)), .val (.ref (A 1))] [(.int (0 : Int32))])) st4 ?_
  refine own_go (B := T4.setTop (mkF m 25 #[.val (.int (7 : Int32)), .val (.ref b1), .val (.int (7 : Int32)), .val (.int (0 : Int32)), .val (.ref (A 1))] [(.int (7 : Int32)), (.int (0 : Int32))])) (fun _ k => XS.iloadN X4.here hx rfl (hb hby d1_24) rfl k) ?_
  refine own_go (B := T4.setTop (mkF m 31 #[.val (.int (7 : Int32)), .val (.ref b1), .val (.int (7 : Int32)), .val (.int (0 : Int32)), .val (.ref (A 1))] [])) (fun _ k => XS.icmpYes X4.here hx rfl (pc0 := 25) (pc' := 31) rfl (hb hby d1_25) rfl (by decide) (by decide) (by decide) k) ?_
  refine own_go (B := T4.setTop (mkF m 34 #[.val (.int (7 : Int32)), .val (.ref b1), .val (.int (7 : Int32)), .val (.int ((0 : Int32) + (1 : Int32))), .val (.ref (A 1))] [])) (fun _ k => XT.iincV X4.here hx rfl (1 : Int32) (hb hby d1_31) rfl rfl (l' := #[.val (.int (7 : Int32)), .val (.ref b1), .val (.int (7 : Int32)), .val (.int ((0 : Int32) + (1 : Int32))), .val (.ref (A 1))]) rfl k) ?_
  rw [(by decide +kernel : ((0 : Int32) + (1 : Int32)) = (1 : Int32))]
  refine own_go (B := T4.setTop (mkF m 9 #[.val (.int (7 : Int32)), .val (.ref b1), .val (.int (7 : Int32)), .val (.int (1 : Int32)), .val (.ref (A 1))] [])) (fun _ k => XS.goto X4.here hx rfl (pc0 := 34) (pc' := 9) rfl (hb hby d1_34) (by decide) (by decide) k) ?_
  refine own_go (B := T4.setTop (mkF m 10 #[.val (.int (7 : Int32)), .val (.ref b1), .val (.int (7 : Int32)), .val (.int (1 : Int32)), .val (.ref (A 1))] [(.int (1 : Int32))])) (fun _ k => XS.iloadN X4.here hx rfl (hb hby d1_9) rfl k) ?_
  refine own_go (B := T4.setTop (mkF m 11 #[.val (.int (7 : Int32)), .val (.ref b1), .val (.int (7 : Int32)), .val (.int (1 : Int32)), .val (.ref (A 1))] [(.int (7 : Int32)), (.int (1 : Int32))])) (fun _ k => XS.iloadN X4.here hx rfl (hb hby d1_10) rfl k) ?_
  refine own_go (B := T4.setTop (mkF m 14 #[.val (.int (7 : Int32)), .val (.ref b1), .val (.int (7 : Int32)), .val (.int (1 : Int32)), .val (.ref (A 1))] [])) (fun _ k => XS.icmpNo X4.here hx rfl (hb hby d1_11) rfl (by decide) k) ?_
  refine own_go (B := T4.setTop (mkF m 15 #[.val (.int (7 : Int32)), .val (.ref b1), .val (.int (7 : Int32)), .val (.int (1 : Int32)), .val (.ref (A 1))] [(.ref b1)])) (fun _ k => XS.aloadN X4.here hx rfl (hb hby d1_14) rfl rfl k) ?_
  refine own_go (B := T4.setTop (mkF m 16 #[.val (.int (7 : Int32)), .val (.ref b1), .val (.int (7 : Int32)), .val (.int (1 : Int32)), .val (.ref (A 1))] [(.int (1 : Int32)), (.ref b1)])) (fun _ k => XS.iloadN X4.here hx rfl (hb hby d1_15) rfl k) ?_
  obtain ⟨cl5, Ar5, q5a, q5b, q5c, q5d, q5e⟩ := id V1
  have i5 := inb_of (j := (1 : Int32)) q5b ⟨by decide, by decide⟩
  refine own_go (B := T4.setTop (mkF m 17 #[.val (.int (7 : Int32)), .val (.ref b1), .val (.int (7 : Int32)), .val (.int (1 : Int32)), .val (.ref (A 1))] [(.ref (A 2))])) (fun _ k => X4.aaload hx (j := (1 : Int32)) (v := (.ref (A 2))) (by rw [e4]; exact Ar5.1) (State.isArrayOf_alike hZ.alike Ar5.2.1) rfl Ar5.2.2 i5 (Has.at q5d i5 rfl) (g := (mkF m 16 #[.val (.int (7 : Int32)), .val (.ref b1), .val (.int (7 : Int32)), .val (.int (1 : Int32)), .val (.ref (A 1))] [(.int (1 : Int32)), (.ref b1)])) rfl rfl (hb hby d1_16) _ k) ?_
  refine own_go (B := T4.setTop (mkF m 19 #[.val (.int (7 : Int32)), .val (.ref b1), .val (.int (7 : Int32)), .val (.int (1 : Int32)), .val (.ref (A 2))] [])) (fun _ k => XS.astore X4.here hx rfl (hb hby d1_17) rfl rfl (l' := #[.val (.int (7 : Int32)), .val (.ref b1), .val (.int (7 : Int32)), .val (.int (1 : Int32)), .val (.ref (A 2))]) rfl k) ?_
  refine own_go (B := T4.setTop (mkF m 21 #[.val (.int (7 : Int32)), .val (.ref b1), .val (.int (7 : Int32)), .val (.int (1 : Int32)), .val (.ref (A 2))] [(.ref (A 2))])) (fun _ k => XS.aload X4.here hx rfl (hb hby d1_19) rfl rfl k) ?_
  obtain ⟨T6, X6, e6, st6⟩ := getF X4 hx hZ hown (host := "") (Or.inl (hw _ (List.mem_of_getElem? (i := 26) rfl))) Via.refl e4 (F_STARTING_value.ext x1) (g := (mkF m 21 #[.val (.int (7 : Int32)), .val (.ref b1), .val (.int (7 : Int32)), .val (.int (1 : Int32)), .val (.ref (A 2))] [(.ref (A 2))])) rfl rfl (hb hby d1_21)
  refine own_go (B := T6.setTop (mkF m 24 #[.val (.int (7 : Int32)), .val (.ref b1), .val (.int (7 : Int32)), .val (.int (1 : Int32)), .val (.ref (A 2))] [(.int (1 : Int32))])) st6 ?_
  refine own_go (B := T6.setTop (mkF m 25 #[.val (.int (7 : Int32)), .val (.ref b1), .val (.int (7 : Int32)), .val (.int (1 : Int32)), .val (.ref (A 2))] [(.int (7 : Int32)), (.int (1 : Int32))])) (fun _ k => XS.iloadN X6.here hx rfl (hb hby d1_24) rfl k) ?_
  refine own_go (B := T6.setTop (mkF m 31 #[.val (.int (7 : Int32)), .val (.ref b1), .val (.int (7 : Int32)), .val (.int (1 : Int32)), .val (.ref (A 2))] [])) (fun _ k => XS.icmpYes X6.here hx rfl (pc0 := 25) (pc' := 31) rfl (hb hby d1_25) rfl (by decide) (by decide) (by decide) k) ?_
  refine own_go (B := T6.setTop (mkF m 34 #[.val (.int (7 : Int32)), .val (.ref b1), .val (.int (7 : Int32)), .val (.int ((1 : Int32) + (1 : Int32))), .val (.ref (A 2))] [])) (fun _ k => XT.iincV X6.here hx rfl (1 : Int32) (hb hby d1_31) rfl rfl (l' := #[.val (.int (7 : Int32)), .val (.ref b1), .val (.int (7 : Int32)), .val (.int ((1 : Int32) + (1 : Int32))), .val (.ref (A 2))]) rfl k) ?_
  rw [(by decide +kernel : ((1 : Int32) + (1 : Int32)) = (2 : Int32))]
  refine own_go (B := T6.setTop (mkF m 9 #[.val (.int (7 : Int32)), .val (.ref b1), .val (.int (7 : Int32)), .val (.int (2 : Int32)), .val (.ref (A 2))] [])) (fun _ k => XS.goto X6.here hx rfl (pc0 := 34) (pc' := 9) rfl (hb hby d1_34) (by decide) (by decide) k) ?_
  refine own_go (B := T6.setTop (mkF m 10 #[.val (.int (7 : Int32)), .val (.ref b1), .val (.int (7 : Int32)), .val (.int (2 : Int32)), .val (.ref (A 2))] [(.int (2 : Int32))])) (fun _ k => XS.iloadN X6.here hx rfl (hb hby d1_9) rfl k) ?_
  refine own_go (B := T6.setTop (mkF m 11 #[.val (.int (7 : Int32)), .val (.ref b1), .val (.int (7 : Int32)), .val (.int (2 : Int32)), .val (.ref (A 2))] [(.int (7 : Int32)), (.int (2 : Int32))])) (fun _ k => XS.iloadN X6.here hx rfl (hb hby d1_10) rfl k) ?_
  refine own_go (B := T6.setTop (mkF m 14 #[.val (.int (7 : Int32)), .val (.ref b1), .val (.int (7 : Int32)), .val (.int (2 : Int32)), .val (.ref (A 2))] [])) (fun _ k => XS.icmpNo X6.here hx rfl (hb hby d1_11) rfl (by decide) k) ?_
  refine own_go (B := T6.setTop (mkF m 15 #[.val (.int (7 : Int32)), .val (.ref b1), .val (.int (7 : Int32)), .val (.int (2 : Int32)), .val (.ref (A 2))] [(.ref b1)])) (fun _ k => XS.aloadN X6.here hx rfl (hb hby d1_14) rfl rfl k) ?_
  refine own_go (B := T6.setTop (mkF m 16 #[.val (.int (7 : Int32)), .val (.ref b1), .val (.int (7 : Int32)), .val (.int (2 : Int32)), .val (.ref (A 2))] [(.int (2 : Int32)), (.ref b1)])) (fun _ k => XS.iloadN X6.here hx rfl (hb hby d1_15) rfl k) ?_
  obtain ⟨cl7, Ar7, q7a, q7b, q7c, q7d, q7e⟩ := id V1
  have i7 := inb_of (j := (2 : Int32)) q7b ⟨by decide, by decide⟩
  refine own_go (B := T6.setTop (mkF m 17 #[.val (.int (7 : Int32)), .val (.ref b1), .val (.int (7 : Int32)), .val (.int (2 : Int32)), .val (.ref (A 2))] [(.ref (A 3))])) (fun _ k => X6.aaload hx (j := (2 : Int32)) (v := (.ref (A 3))) (by rw [e6]; exact Ar7.1) (State.isArrayOf_alike hZ.alike Ar7.2.1) rfl Ar7.2.2 i7 (Has.at q7d i7 rfl) (g := (mkF m 16 #[.val (.int (7 : Int32)), .val (.ref b1), .val (.int (7 : Int32)), .val (.int (2 : Int32)), .val (.ref (A 2))] [(.int (2 : Int32)), (.ref b1)])) rfl rfl (hb hby d1_16) _ k) ?_
  refine own_go (B := T6.setTop (mkF m 19 #[.val (.int (7 : Int32)), .val (.ref b1), .val (.int (7 : Int32)), .val (.int (2 : Int32)), .val (.ref (A 3))] [])) (fun _ k => XS.astore X6.here hx rfl (hb hby d1_17) rfl rfl (l' := #[.val (.int (7 : Int32)), .val (.ref b1), .val (.int (7 : Int32)), .val (.int (2 : Int32)), .val (.ref (A 3))]) rfl k) ?_
  refine own_go (B := T6.setTop (mkF m 21 #[.val (.int (7 : Int32)), .val (.ref b1), .val (.int (7 : Int32)), .val (.int (2 : Int32)), .val (.ref (A 3))] [(.ref (A 3))])) (fun _ k => XS.aload X6.here hx rfl (hb hby d1_19) rfl rfl k) ?_
  obtain ⟨T8, X8, e8, st8⟩ := getF X6 hx hZ hown (host := "") (Or.inl (hw _ (List.mem_of_getElem? (i := 26) rfl))) Via.refl e6 (F_RECOVERY_value.ext x1) (g := (mkF m 21 #[.val (.int (7 : Int32)), .val (.ref b1), .val (.int (7 : Int32)), .val (.int (2 : Int32)), .val (.ref (A 3))] [(.ref (A 3))])) rfl rfl (hb hby d1_21)
  refine own_go (B := T8.setTop (mkF m 24 #[.val (.int (7 : Int32)), .val (.ref b1), .val (.int (7 : Int32)), .val (.int (2 : Int32)), .val (.ref (A 3))] [(.int (2 : Int32))])) st8 ?_
  refine own_go (B := T8.setTop (mkF m 25 #[.val (.int (7 : Int32)), .val (.ref b1), .val (.int (7 : Int32)), .val (.int (2 : Int32)), .val (.ref (A 3))] [(.int (7 : Int32)), (.int (2 : Int32))])) (fun _ k => XS.iloadN X8.here hx rfl (hb hby d1_24) rfl k) ?_
  refine own_go (B := T8.setTop (mkF m 31 #[.val (.int (7 : Int32)), .val (.ref b1), .val (.int (7 : Int32)), .val (.int (2 : Int32)), .val (.ref (A 3))] [])) (fun _ k => XS.icmpYes X8.here hx rfl (pc0 := 25) (pc' := 31) rfl (hb hby d1_25) rfl (by decide) (by decide) (by decide) k) ?_
  refine own_go (B := T8.setTop (mkF m 34 #[.val (.int (7 : Int32)), .val (.ref b1), .val (.int (7 : Int32)), .val (.int ((2 : Int32) + (1 : Int32))), .val (.ref (A 3))] [])) (fun _ k => XT.iincV X8.here hx rfl (1 : Int32) (hb hby d1_31) rfl rfl (l' := #[.val (.int (7 : Int32)), .val (.ref b1), .val (.int (7 : Int32)), .val (.int ((2 : Int32) + (1 : Int32))), .val (.ref (A 3))]) rfl k) ?_
  rw [(by decide +kernel : ((2 : Int32) + (1 : Int32)) = (3 : Int32))]
  refine own_go (B := T8.setTop (mkF m 9 #[.val (.int (7 : Int32)), .val (.ref b1), .val (.int (7 : Int32)), .val (.int (3 : Int32)), .val (.ref (A 3))] [])) (fun _ k => XS.goto X8.here hx rfl (pc0 := 34) (pc' := 9) rfl (hb hby d1_34) (by decide) (by decide) k) ?_
  refine own_go (B := T8.setTop (mkF m 10 #[.val (.int (7 : Int32)), .val (.ref b1), .val (.int (7 : Int32)), .val (.int (3 : Int32)), .val (.ref (A 3))] [(.int (3 : Int32))])) (fun _ k => XS.iloadN X8.here hx rfl (hb hby d1_9) rfl k) ?_
  refine own_go (B := T8.setTop (mkF m 11 #[.val (.int (7 : Int32)), .val (.ref b1), .val (.int (7 : Int32)), .val (.int (3 : Int32)), .val (.ref (A 3))] [(.int (7 : Int32)), (.int (3 : Int32))])) (fun _ k => XS.iloadN X8.here hx rfl (hb hby d1_10) rfl k) ?_
  refine own_go (B := T8.setTop (mkF m 14 #[.val (.int (7 : Int32)), .val (.ref b1), .val (.int (7 : Int32)), .val (.int (3 : Int32)), .val (.ref (A 3))] [])) (fun _ k => XS.icmpNo X8.here hx rfl (hb hby d1_11) rfl (by decide) k) ?_
  refine own_go (B := T8.setTop (mkF m 15 #[.val (.int (7 : Int32)), .val (.ref b1), .val (.int (7 : Int32)), .val (.int (3 : Int32)), .val (.ref (A 3))] [(.ref b1)])) (fun _ k => XS.aloadN X8.here hx rfl (hb hby d1_14) rfl rfl k) ?_
  refine own_go (B := T8.setTop (mkF m 16 #[.val (.int (7 : Int32)), .val (.ref b1), .val (.int (7 : Int32)), .val (.int (3 : Int32)), .val (.ref (A 3))] [(.int (3 : Int32)), (.ref b1)])) (fun _ k => XS.iloadN X8.here hx rfl (hb hby d1_15) rfl k) ?_
  obtain ⟨cl9, Ar9, q9a, q9b, q9c, q9d, q9e⟩ := id V1
  have i9 := inb_of (j := (3 : Int32)) q9b ⟨by decide, by decide⟩
  refine own_go (B := T8.setTop (mkF m 17 #[.val (.int (7 : Int32)), .val (.ref b1), .val (.int (7 : Int32)), .val (.int (3 : Int32)), .val (.ref (A 3))] [(.ref (A 4))])) (fun _ k => X8.aaload hx (j := (3 : Int32)) (v := (.ref (A 4))) (by rw [e8]; exact Ar9.1) (State.isArrayOf_alike hZ.alike Ar9.2.1) rfl Ar9.2.2 i9 (Has.at q9d i9 rfl) (g := (mkF m 16 #[.val (.int (7 : Int32)), .val (.ref b1), .val (.int (7 : Int32)), .val (.int (3 : Int32)), .val (.ref (A 3))] [(.int (3 : Int32)), (.ref b1)])) rfl rfl (hb hby d1_16) _ k) ?_
  refine own_go (B := T8.setTop (mkF m 19 #[.val (.int (7 : Int32)), .val (.ref b1), .val (.int (7 : Int32)), .val (.int (3 : Int32)), .val (.ref (A 4))] [])) (fun _ k => XS.astore X8.here hx rfl (hb hby d1_17) rfl rfl (l' := #[.val (.int (7 : Int32)), .val (.ref b1), .val (.int (7 : Int32)), .val (.int (3 : Int32)), .val (.ref (A 4))]) rfl k) ?_
  refine own_go (B := T8.setTop (mkF m 21 #[.val (.int (7 : Int32)), .val (.ref b1), .val (.int (7 : Int32)), .val (.int (3 : Int32)), .val (.ref (A 4))] [(.ref (A 4))])) (fun _ k => XS.aload X8.here hx rfl (hb hby d1_19) rfl rfl k) ?_
  obtain ⟨T10, X10, e10, st10⟩ := getF X8 hx hZ hown (host := "") (Or.inl (hw _ (List.mem_of_getElem? (i := 26) rfl))) Via.refl e8 (F_RUNNING_value.ext x1) (g := (mkF m 21 #[.val (.int (7 : Int32)), .val (.ref b1), .val (.int (7 : Int32)), .val (.int (3 : Int32)), .val (.ref (A 4))] [(.ref (A 4))])) rfl rfl (hb hby d1_21)
  refine own_go (B := T10.setTop (mkF m 24 #[.val (.int (7 : Int32)), .val (.ref b1), .val (.int (7 : Int32)), .val (.int (3 : Int32)), .val (.ref (A 4))] [(.int (3 : Int32))])) st10 ?_
  refine own_go (B := T10.setTop (mkF m 25 #[.val (.int (7 : Int32)), .val (.ref b1), .val (.int (7 : Int32)), .val (.int (3 : Int32)), .val (.ref (A 4))] [(.int (7 : Int32)), (.int (3 : Int32))])) (fun _ k => XS.iloadN X10.here hx rfl (hb hby d1_24) rfl k) ?_
  refine own_go (B := T10.setTop (mkF m 31 #[.val (.int (7 : Int32)), .val (.ref b1), .val (.int (7 : Int32)), .val (.int (3 : Int32)), .val (.ref (A 4))] [])) (fun _ k => XS.icmpYes X10.here hx rfl (pc0 := 25) (pc' := 31) rfl (hb hby d1_25) rfl (by decide) (by decide) (by decide) k) ?_
  refine own_go (B := T10.setTop (mkF m 34 #[.val (.int (7 : Int32)), .val (.ref b1), .val (.int (7 : Int32)), .val (.int ((3 : Int32) + (1 : Int32))), .val (.ref (A 4))] [])) (fun _ k => XT.iincV X10.here hx rfl (1 : Int32) (hb hby d1_31) rfl rfl (l' := #[.val (.int (7 : Int32)), .val (.ref b1), .val (.int (7 : Int32)), .val (.int ((3 : Int32) + (1 : Int32))), .val (.ref (A 4))]) rfl k) ?_
  rw [(by decide +kernel : ((3 : Int32) + (1 : Int32)) = (4 : Int32))]
  refine own_go (B := T10.setTop (mkF m 9 #[.val (.int (7 : Int32)), .val (.ref b1), .val (.int (7 : Int32)), .val (.int (4 : Int32)), .val (.ref (A 4))] [])) (fun _ k => XS.goto X10.here hx rfl (pc0 := 34) (pc' := 9) rfl (hb hby d1_34) (by decide) (by decide) k) ?_
  refine own_go (B := T10.setTop (mkF m 10 #[.val (.int (7 : Int32)), .val (.ref b1), .val (.int (7 : Int32)), .val (.int (4 : Int32)), .val (.ref (A 4))] [(.int (4 : Int32))])) (fun _ k => XS.iloadN X10.here hx rfl (hb hby d1_9) rfl k) ?_
  refine own_go (B := T10.setTop (mkF m 11 #[.val (.int (7 : Int32)), .val (.ref b1), .val (.int (7 : Int32)), .val (.int (4 : Int32)), .val (.ref (A 4))] [(.int (7 : Int32)), (.int (4 : Int32))])) (fun _ k => XS.iloadN X10.here hx rfl (hb hby d1_10) rfl k) ?_
  refine own_go (B := T10.setTop (mkF m 14 #[.val (.int (7 : Int32)), .val (.ref b1), .val (.int (7 : Int32)), .val (.int (4 : Int32)), .val (.ref (A 4))] [])) (fun _ k => XS.icmpNo X10.here hx rfl (hb hby d1_11) rfl (by decide) k) ?_
  refine own_go (B := T10.setTop (mkF m 15 #[.val (.int (7 : Int32)), .val (.ref b1), .val (.int (7 : Int32)), .val (.int (4 : Int32)), .val (.ref (A 4))] [(.ref b1)])) (fun _ k => XS.aloadN X10.here hx rfl (hb hby d1_14) rfl rfl k) ?_
  refine own_go (B := T10.setTop (mkF m 16 #[.val (.int (7 : Int32)), .val (.ref b1), .val (.int (7 : Int32)), .val (.int (4 : Int32)), .val (.ref (A 4))] [(.int (4 : Int32)), (.ref b1)])) (fun _ k => XS.iloadN X10.here hx rfl (hb hby d1_15) rfl k) ?_
  obtain ⟨cl11, Ar11, q11a, q11b, q11c, q11d, q11e⟩ := id V1
  have i11 := inb_of (j := (4 : Int32)) q11b ⟨by decide, by decide⟩
  refine own_go (B := T10.setTop (mkF m 17 #[.val (.int (7 : Int32)), .val (.ref b1), .val (.int (7 : Int32)), .val (.int (4 : Int32)), .val (.ref (A 4))] [(.ref (A 5))])) (fun _ k => X10.aaload hx (j := (4 : Int32)) (v := (.ref (A 5))) (by rw [e10]; exact Ar11.1) (State.isArrayOf_alike hZ.alike Ar11.2.1) rfl Ar11.2.2 i11 (Has.at q11d i11 rfl) (g := (mkF m 16 #[.val (.int (7 : Int32)), .val (.ref b1), .val (.int (7 : Int32)), .val (.int (4 : Int32)), .val (.ref (A 4))] [(.int (4 : Int32)), (.ref b1)])) rfl rfl (hb hby d1_16) _ k) ?_
  refine own_go (B := T10.setTop (mkF m 19 #[.val (.int (7 : Int32)), .val (.ref b1), .val (.int (7 : Int32)), .val (.int (4 : Int32)), .val (.ref (A 5))] [])) (fun _ k => XS.astore X10.here hx rfl (hb hby d1_17) rfl rfl (l' := #[.val (.int (7 : Int32)), .val (.ref b1), .val (.int (7 : Int32)), .val (.int (4 : Int32)), .val (.ref (A 5))]) rfl k) ?_
  refine own_go (B := T10.setTop (mkF m 21 #[.val (.int (7 : Int32)), .val (.ref b1), .val (.int (7 : Int32)), .val (.int (4 : Int32)), .val (.ref (A 5))] [(.ref (A 5))])) (fun _ k => XS.aload X10.here hx rfl (hb hby d1_19) rfl rfl k) ?_
  obtain ⟨T12, X12, e12, st12⟩ := getF X10 hx hZ hown (host := "") (Or.inl (hw _ (List.mem_of_getElem? (i := 26) rfl))) Via.refl e10 (F_PENDING_CONTROLLED_SHUTDOWN_value.ext x1) (g := (mkF m 21 #[.val (.int (7 : Int32)), .val (.ref b1), .val (.int (7 : Int32)), .val (.int (4 : Int32)), .val (.ref (A 5))] [(.ref (A 5))])) rfl rfl (hb hby d1_21)
  refine own_go (B := T12.setTop (mkF m 24 #[.val (.int (7 : Int32)), .val (.ref b1), .val (.int (7 : Int32)), .val (.int (4 : Int32)), .val (.ref (A 5))] [(.int (6 : Int32))])) st12 ?_
  refine own_go (B := T12.setTop (mkF m 25 #[.val (.int (7 : Int32)), .val (.ref b1), .val (.int (7 : Int32)), .val (.int (4 : Int32)), .val (.ref (A 5))] [(.int (7 : Int32)), (.int (6 : Int32))])) (fun _ k => XS.iloadN X12.here hx rfl (hb hby d1_24) rfl k) ?_
  refine own_go (B := T12.setTop (mkF m 31 #[.val (.int (7 : Int32)), .val (.ref b1), .val (.int (7 : Int32)), .val (.int (4 : Int32)), .val (.ref (A 5))] [])) (fun _ k => XS.icmpYes X12.here hx rfl (pc0 := 25) (pc' := 31) rfl (hb hby d1_25) rfl (by decide) (by decide) (by decide) k) ?_
  refine own_go (B := T12.setTop (mkF m 34 #[.val (.int (7 : Int32)), .val (.ref b1), .val (.int (7 : Int32)), .val (.int ((4 : Int32) + (1 : Int32))), .val (.ref (A 5))] [])) (fun _ k => XT.iincV X12.here hx rfl (1 : Int32) (hb hby d1_31) rfl rfl (l' := #[.val (.int (7 : Int32)), .val (.ref b1), .val (.int (7 : Int32)), .val (.int ((4 : Int32) + (1 : Int32))), .val (.ref (A 5))]) rfl k) ?_
  rw [(by decide +kernel : ((4 : Int32) + (1 : Int32)) = (5 : Int32))]
  refine own_go (B := T12.setTop (mkF m 9 #[.val (.int (7 : Int32)), .val (.ref b1), .val (.int (7 : Int32)), .val (.int (5 : Int32)), .val (.ref (A 5))] [])) (fun _ k => XS.goto X12.here hx rfl (pc0 := 34) (pc' := 9) rfl (hb hby d1_34) (by decide) (by decide) k) ?_
  refine own_go (B := T12.setTop (mkF m 10 #[.val (.int (7 : Int32)), .val (.ref b1), .val (.int (7 : Int32)), .val (.int (5 : Int32)), .val (.ref (A 5))] [(.int (5 : Int32))])) (fun _ k => XS.iloadN X12.here hx rfl (hb hby d1_9) rfl k) ?_
  refine own_go (B := T12.setTop (mkF m 11 #[.val (.int (7 : Int32)), .val (.ref b1), .val (.int (7 : Int32)), .val (.int (5 : Int32)), .val (.ref (A 5))] [(.int (7 : Int32)), (.int (5 : Int32))])) (fun _ k => XS.iloadN X12.here hx rfl (hb hby d1_10) rfl k) ?_
  refine own_go (B := T12.setTop (mkF m 14 #[.val (.int (7 : Int32)), .val (.ref b1), .val (.int (7 : Int32)), .val (.int (5 : Int32)), .val (.ref (A 5))] [])) (fun _ k => XS.icmpNo X12.here hx rfl (hb hby d1_11) rfl (by decide) k) ?_
  refine own_go (B := T12.setTop (mkF m 15 #[.val (.int (7 : Int32)), .val (.ref b1), .val (.int (7 : Int32)), .val (.int (5 : Int32)), .val (.ref (A 5))] [(.ref b1)])) (fun _ k => XS.aloadN X12.here hx rfl (hb hby d1_14) rfl rfl k) ?_
  refine own_go (B := T12.setTop (mkF m 16 #[.val (.int (7 : Int32)), .val (.ref b1), .val (.int (7 : Int32)), .val (.int (5 : Int32)), .val (.ref (A 5))] [(.int (5 : Int32)), (.ref b1)])) (fun _ k => XS.iloadN X12.here hx rfl (hb hby d1_15) rfl k) ?_
  obtain ⟨cl13, Ar13, q13a, q13b, q13c, q13d, q13e⟩ := id V1
  have i13 := inb_of (j := (5 : Int32)) q13b ⟨by decide, by decide⟩
  refine own_go (B := T12.setTop (mkF m 17 #[.val (.int (7 : Int32)), .val (.ref b1), .val (.int (7 : Int32)), .val (.int (5 : Int32)), .val (.ref (A 5))] [(.ref (A 6))])) (fun _ k => X12.aaload hx (j := (5 : Int32)) (v := (.ref (A 6))) (by rw [e12]; exact Ar13.1) (State.isArrayOf_alike hZ.alike Ar13.2.1) rfl Ar13.2.2 i13 (Has.at q13d i13 rfl) (g := (mkF m 16 #[.val (.int (7 : Int32)), .val (.ref b1), .val (.int (7 : Int32)), .val (.int (5 : Int32)), .val (.ref (A 5))] [(.int (5 : Int32)), (.ref b1)])) rfl rfl (hb hby d1_16) _ k) ?_
  refine own_go (B := T12.setTop (mkF m 19 #[.val (.int (7 : Int32)), .val (.ref b1), .val (.int (7 : Int32)), .val (.int (5 : Int32)), .val (.ref (A 6))] [])) (fun _ k => XS.astore X12.here hx rfl (hb hby d1_17) rfl rfl (l' := #[.val (.int (7 : Int32)), .val (.ref b1), .val (.int (7 : Int32)), .val (.int (5 : Int32)), .val (.ref (A 6))]) rfl k) ?_
  refine own_go (B := T12.setTop (mkF m 21 #[.val (.int (7 : Int32)), .val (.ref b1), .val (.int (7 : Int32)), .val (.int (5 : Int32)), .val (.ref (A 6))] [(.ref (A 6))])) (fun _ k => XS.aload X12.here hx rfl (hb hby d1_19) rfl rfl k) ?_
  obtain ⟨T14, X14, e14, st14⟩ := getF X12 hx hZ hown (host := "") (Or.inl (hw _ (List.mem_of_getElem? (i := 26) rfl))) Via.refl e12 (F_SHUTTING_DOWN_value.ext x1) (g := (mkF m 21 #[.val (.int (7 : Int32)), .val (.ref b1), .val (.int (7 : Int32)), .val (.int (5 : Int32)), .val (.ref (A 6))] [(.ref (A 6))])) rfl rfl (hb hby d1_21)
  refine own_go (B := T14.setTop (mkF m 24 #[.val (.int (7 : Int32)), .val (.ref b1), .val (.int (7 : Int32)), .val (.int (5 : Int32)), .val (.ref (A 6))] [(.int (7 : Int32))])) st14 ?_
  refine own_go (B := T14.setTop (mkF m 25 #[.val (.int (7 : Int32)), .val (.ref b1), .val (.int (7 : Int32)), .val (.int (5 : Int32)), .val (.ref (A 6))] [(.int (7 : Int32)), (.int (7 : Int32))])) (fun _ k => XS.iloadN X14.here hx rfl (hb hby d1_24) rfl k) ?_
  refine own_go (B := T14.setTop (mkF m 28 #[.val (.int (7 : Int32)), .val (.ref b1), .val (.int (7 : Int32)), .val (.int (5 : Int32)), .val (.ref (A 6))] [])) (fun _ k => XS.icmpNo X14.here hx rfl (hb hby d1_25) rfl (by decide) k) ?_
  refine own_go (B := T14.setTop (mkF m 30 #[.val (.int (7 : Int32)), .val (.ref b1), .val (.int (7 : Int32)), .val (.int (5 : Int32)), .val (.ref (A 6))] [(.ref (A 6))])) (fun _ k => XS.aload X14.here hx rfl (hb hby d1_28) rfl rfl k) ?_
  exact own_ret X14 hx (t := (.object "com/example/quorumhand/quorumhand/engine/BrokerState")) hrt rfl (Or.inr (Or.inr (Or.inr (Or.inr ⟨rfl, rfl, rfl⟩)))) (hb hby d1_30) hlk ⟨rfl, N1, by rw [e14]; exact E1⟩ (by decide) (by decide)
set_option maxRecDepth 65536 in
set_option maxHeartbeats 40000000 in
theorem rmO (l : Launch) (Z : State) (a0 : Array Value) (hw : ∀ d ∈ tables_1, d.before a0 Z = true) (ws : List Jvm.Cond) (v : Int32) (A : Nat → Addr) (hW : own_W Z A) (h0 : Heap) (x0 : Ext Z.heap h0) (k0 : ¬ v = (0 : Int32)) (k1 : ¬ v = (1 : Int32)) (k2 : ¬ v = (2 : Int32)) (k3 : ¬ v = (3 : Int32)) (k6 : ¬ v = (6 : Int32)) (k7 : ¬ v = (7 : Int32)) :
    own_Met l Z (⟨"com/example/quorumhand/quorumhand/engine/BrokerState", "of", "(I)Lcom/example/quorumhand/quorumhand/engine/BrokerState;"⟩ : MethodName) prog_4_method_5_code 5 (some (.object "com/example/quorumhand/quorumhand/engine/BrokerState")) ws ({ frames := 2, cells := 1, slots := 7, locals := 25 } : Room) #[(.int v)] h0 (fun v_ h_ L_ => v_ = some (.ref (A 7)) ∧ Fr Z.heap.size L_ ∧ Ext h0 h_) := by
  refine own_body (plainFor_of_name pn_0) fun p e s m below meth c s₁ hx hby hml hown hnm hlk hrt hZ X0 e0 => ?_
  have N0 := Fr.nil Z.heap.size
  have hW' := hW
  obtain ⟨-, -, -, -, -, -, -, -, -, -, -, -, -, -, S_UNKNOWN, -, -, F_NOT_RUNNING_value, -, -, F_STARTING_value, F_RECOVERY_value, F_RUNNING_value, F_PENDING_CONTROLLED_SHUTDOWN_value, F_SHUTTING_DOWN_value, F_UNKNOWN_value, -, -, -, -, -⟩ := hW'
  refine own_go (B := s₁.setTop (mkF m 0 #[.val (.int v), .unset, .unset, .unset, .unset] [])) (fun t k => castTop (ef_1 m v) k) ?_
  obtain ⟨_, _, ⟨T1, L1, k1, n1⟩, -, X1, ⟨Lc1, hQ1, l1, y1, z1⟩, st1⟩ := Jvm.LawKit.callS X0 hx (y := (⟨"com/example/quorumhand/quorumhand/engine/BrokerState", "values", "()[Lcom/example/quorumhand/quorumhand/engine/BrokerState;"⟩ : MethodName)) hown (mvT hZ (hw _ (List.mem_of_getElem? (i := 4) rfl))) (mvT hZ (hw _ (List.mem_of_getElem? (i := 5) rfl))) (mvT hZ (hw _ (List.mem_of_getElem? (i := 2) rfl))) (mvT hZ (hw _ (List.mem_of_getElem? (i := 6) rfl))) (by decide) (own_back (W := 0) (rmV l Z a0 hw [] A hW h0 x0) hZ (hw _ (List.mem_of_getElem? (i := 6) rfl)) (hw _ (List.mem_of_getElem? (i := 2) rfl)) (by decide) (by decide)) (g := (mkF m 0 #[.val (.int v), .unset, .unset, .unset, .unset] [])) rfl (by rw [hml]; rfl) (argsL := []) (rest := []) (lenOf pd_0 rfl) rfl (by show 2 * 0 + _ ≤ _; exact Nat.le_of_eq rfl) (hb hby d1_0) (fun _ _ => ⟨rfl, e0, (by decide : 0 + 1 ≤ _), (by decide : 0 + 7 ≤ _)⟩)
  dsimp only [Pt.U, Pt.locs, Pt.cells, Pt.slots] at X1 l1 y1 z1 st1 hQ1
  subst l1 y1 z1
  obtain ⟨b1, k1', rfl, N1q, E1, V1⟩ := hQ1
  have N1 := Fr.app N0 N1q
  have x1 : Ext Z.heap T1.heap := own_xt x0 E1
  refine own_go (B := T1.setTop (mkF m 3 #[.val (.int v), .unset, .unset, .unset, .unset] [(.ref b1)])) st1 ?_
  refine own_go (B := T1.setTop (mkF m 4 #[.val (.int v), .val (.ref b1), .unset, .unset, .unset] [])) (fun _ k => XS.astoreN X1.here hx rfl (hb hby d1_3) rfl rfl (l' := #[.val (.int v), .val (.ref b1), .unset, .unset, .unset]) rfl k) ?_
  refine own_go (B := T1.setTop (mkF m 5 #[.val (.int v), .val (.ref b1), .unset, .unset, .unset] [(.ref b1)])) (fun _ k => XS.aloadN X1.here hx rfl (hb hby d1_4) rfl rfl k) ?_
  obtain ⟨cl2, Ar2, q2a, q2b, q2c, q2d, q2e⟩ := id V1
  refine own_go (B := T1.setTop (mkF m 6 #[.val (.int v), .val (.ref b1), .unset, .unset, .unset] [(.int (7 : Int32))])) (fun _ k => X1.arraylength hx Ar2.1 (State.isArrayOf_alike hZ.alike Ar2.2.1) (g := (mkF m 5 #[.val (.int v), .val (.ref b1), .unset, .unset, .unset] [(.ref b1)])) rfl rfl (hb hby d1_5) _ (by rw [len_of q2b q2c]; exact k)) ?_
  refine own_go (B := T1.setTop (mkF m 7 #[.val (.int v), .val (.ref b1), .val (.int (7 : Int32)), .unset, .unset] [])) (fun _ k => XS.istoreN X1.here hx rfl (hb hby d1_6) rfl (l' := #[.val (.int v), .val (.ref b1), .val (.int (7 : Int32)), .unset, .unset]) rfl k) ?_
  refine own_go (B := T1.setTop (mkF m 8 #[.val (.int v), .val (.ref b1), .val (.int (7 : Int32)), .unset, .unset] [(.int (0 : Int32))])) (fun _ k => XT.iconstV X1.here hx rfl (0 : Int32) (hb hby d1_7) rfl k) ?_
  refine own_go (B := T1.setTop (mkF m 9 #[.val (.int v), .val (.ref b1), .val (.int (7 : Int32)), .val (.int (0 : Int32)), .unset] [])) (fun _ k => XS.istoreN X1.here hx rfl (hb hby d1_8) rfl (l' := #[.val (.int v), .val (.ref b1), .val (.int (7 : Int32)), .val (.int (0 : Int32)), .unset]) rfl k) ?_
  refine own_go (B := T1.setTop (mkF m 10 #[.val (.int v), .val (.ref b1), .val (.int (7 : Int32)), .val (.int (0 : Int32)), .unset] [(.int (0 : Int32))])) (fun _ k => XS.iloadN X1.here hx rfl (hb hby d1_9) rfl k) ?_
  refine own_go (B := T1.setTop (mkF m 11 #[.val (.int v), .val (.ref b1), .val (.int (7 : Int32)), .val (.int (0 : Int32)), .unset] [(.int (7 : Int32)), (.int (0 : Int32))])) (fun _ k => XS.iloadN X1.here hx rfl (hb hby d1_10) rfl k) ?_
  refine own_go (B := T1.setTop (mkF m 14 #[.val (.int v), .val (.ref b1), .val (.int (7 : Int32)), .val (.int (0 : Int32)), .unset] [])) (fun _ k => XS.icmpNo X1.here hx rfl (hb hby d1_11) rfl (by decide) k) ?_
  refine own_go (B := T1.setTop (mkF m 15 #[.val (.int v), .val (.ref b1), .val (.int (7 : Int32)), .val (.int (0 : Int32)), .unset] [(.ref b1)])) (fun _ k => XS.aloadN X1.here hx rfl (hb hby d1_14) rfl rfl k) ?_
  refine own_go (B := T1.setTop (mkF m 16 #[.val (.int v), .val (.ref b1), .val (.int (7 : Int32)), .val (.int (0 : Int32)), .unset] [(.int (0 : Int32)), (.ref b1)])) (fun _ k => XS.iloadN X1.here hx rfl (hb hby d1_15) rfl k) ?_
  obtain ⟨cl3, Ar3, q3a, q3b, q3c, q3d, q3e⟩ := id V1
  have i3 := inb_of (j := (0 : Int32)) q3b ⟨by decide, by decide⟩
  refine own_go (B := T1.setTop (mkF m 17 #[.val (.int v), .val (.ref b1), .val (.int (7 : Int32)), .val (.int (0 : Int32)), .unset] [(.ref (A 1))])) (fun _ k => X1.aaload hx (j := (0 : Int32)) (v := (.ref (A 1))) Ar3.1 (State.isArrayOf_alike hZ.alike Ar3.2.1) rfl Ar3.2.2 i3 (Has.at q3d i3 rfl) (g := (mkF m 16 #[.val (.int v), .val (.ref b1), .val (.int (7 : Int32)), .val (.int (0 : Int32)), .unset] [(.int (0 : Int32)), (.ref b1)])) rfl rfl (hb hby d1_16) _ k) ?_
  refine own_go (B := T1.setTop (mkF m 19 #[.val (.int v), .val (.ref b1), .val (.int (7 : Int32)), .val (.int (0 : Int32)), .val (.ref (A 1))] [])) (fun _ k => XS.astore X1.here hx rfl (hb hby d1_17) rfl rfl (l' := #[.val (.int v), .val (.ref b1), .val (.int (7 : Int32)), .val (.int (0 : Int32)), .val (.ref (A 1))]) rfl k) ?_
  refine own_go (B := T1.setTop (mkF m 21 #[.val (.int v), .val (.ref b1), .val (.int (7 : Int32)), .val (.int (0 : Int32)), .val (.ref (A 1))] [(.ref (A 1))])) (fun _ k => XS.aload X1.here hx rfl (hb hby d1_19) rfl rfl k) ?_
  obtain ⟨T4, X4, e4, st4⟩ := getF X1 hx hZ hown (host := "") (Or.inl (hw _ (List.mem_of_getElem? (i := 26) rfl))) Via.refl rfl (F_NOT_RUNNING_value.ext x1) (g := (mkF m 21 #[.val (.int v), .val (.ref b1), .val (.int (7 : Int32)), .val (.int (0 : Int32)), .val (.ref (A 1))] [(.ref (A 1))])) rfl rfl (hb hby d1_21)
  refine own_go (B := T4.setTop (mkF m 24 #[.val (.int v), .val (.ref b1), .val (.int (7 : Int32)), .val (.int (0 : Int32)), .val (.ref (A 1))] [(.int (0 : Int32))])) st4 ?_
  refine own_go (B := T4.setTop (mkF m 25 #[.val (.int v), .val (.ref b1), .val (.int (7 : Int32)), .val (.int (0 : Int32)), .val (.ref (A 1))] [(.int v), (.int (0 : Int32))])) (fun _ k => XS.iloadN X4.here hx rfl (hb hby d1_24) rfl k) ?_
  refine own_go (B := T4.setTop (mkF m 31 #[.val (.int v), .val (.ref b1), .val (.int (7 : Int32)), .val (.int (0 : Int32)), .val (.ref (A 1))] [])) (fun _ k => XS.icmpYes X4.here hx rfl (pc0 := 25) (pc' := 31) rfl (hb hby d1_25) rfl (feq (fun q => k0 q.symm)).2 (by decide) (by decide) k) ?_
  refine own_go (B := T4.setTop (mkF m 34 #[.val (.int v), .val (.ref b1), .val (.int (7 : Int32)), .val (.int ((0 : Int32) + (1 : Int32))), .val (.ref (A 1))] [])) (fun _ k => XT.iincV X4.here hx rfl (1 : Int32) (hb hby d1_31) rfl rfl (l' := #[.val (.int v), .val (.ref b1), .val (.int (7 : Int32)), .val (.int ((0 : Int32) + (1 : Int32))), .val (.ref (A 1))]) rfl k) ?_
  rw [(by decide +kernel : ((0 : Int32) + (1 : Int32)) = (1 : Int32))]
  refine own_go (B := T4.setTop (mkF m 9 #[.val (.int v), .val (.ref b1), .val (.int (7 : Int32)), .val (.int (1 : Int32)), .val (.ref (A 1))] [])) (fun _ k => XS.goto X4.here hx rfl (pc0 := 34) (pc' := 9) rfl (hb hby d1_34) (by decide) (by decide) k) ?_
  refine own_go (B := T4.setTop (mkF m 10 #[.val (.int v), .val (.ref b1), .val (.int (7 : Int32)), .val (.int (1 : Int32)), .val (.ref (A 1))] [(.int (1 : Int32))])) (fun _ k => XS.iloadN X4.here hx rfl (hb hby d1_9) rfl k) ?_
  refine own_go (B := T4.setTop (mkF m 11 #[.val (.int v), .val (.ref b1), .val (.int (7 : Int32)), .val (.int (1 : Int32)), .val (.ref (A 1))] [(.int (7 : Int32)), (.int (1 : Int32))])) (fun _ k => XS.iloadN X4.here hx rfl (hb hby d1_10) rfl k) ?_
  refine own_go (B := T4.setTop (mkF m 14 #[.val (.int v), .val (.ref b1), .val (.int (7 : Int32)), .val (.int (1 : Int32)), .val (.ref (A 1))] [])) (fun _ k => XS.icmpNo X4.here hx rfl (hb hby d1_11) rfl (by decide) k) ?_
  refine own_go (B := T4.setTop (mkF m 15 #[.val (.int v), .val (.ref b1), .val (.int (7 : Int32)), .val (.int (1 : Int32)), .val (.ref (A 1))] [(.ref b1)])) (fun _ k => XS.aloadN X4.here hx rfl (hb hby d1_14) rfl rfl k) ?_
  refine own_go (B := T4.setTop (mkF m 16 #[.val (.int v), .val (.ref b1), .val (.int (7 : Int32)), .val (.int (1 : Int32)), .val (.ref (A 1))] [(.int (1 : Int32)), (.ref b1)])) (fun _ k => XS.iloadN X4.here hx rfl (hb hby d1_15) rfl k) ?_
  obtain ⟨cl5, Ar5, q5a, q5b, q5c, q5d, q5e⟩ := id V1
  have i5 := inb_of (j := (1 : Int32)) q5b ⟨by decide, by decide⟩
  refine own_go (B := T4.setTop (mkF m 17 #[.val (.int v), .val (.ref b1), .val (.int (7 : Int32)), .val (.int (1 : Int32)), .val (.ref (A 1))] [(.ref (A 2))])) (fun _ k => X4.aaload hx (j := (1 : Int32)) (v := (.ref (A 2))) (by rw [e4]; exact Ar5.1) (State.isArrayOf_alike hZ.alike Ar5.2.1) rfl Ar5.2.2 i5 (Has.at q5d i5 rfl) (g := (mkF m 16 #[.val (.int v), .val (.ref b1), .val (.int (7 : Int32)), .val (.int (1 : Int32)), .val (.ref (A 1))] [(.int (1 : Int32)), (.ref b1)])) rfl rfl (hb hby d1_16) _ k) ?_
  refine own_go (B := T4.setTop (mkF m 19 #[.val (.int v), .val (.ref b1), .val (.int (7 : Int32)), .val (.int (1 : Int32)), .val (.ref (A 2))] [])) (fun _ k => XS.astore X4.here hx rfl (hb hby d1_17) rfl rfl (l' := #[.val (.int v), .val (.ref b1), .val (.int (7 : Int32)), .val (.int (1 : Int32)), .val (.ref (A 2))]) rfl k) ?_
  refine own_go (B := T4.setTop (mkF m 21 #[.val (.int v), .val (.ref b1), .val (.int (7 : Int32)), .val (.int (1 : Int32)), .val (.ref (A 2))] [(.ref (A 2))])) (fun _ k => XS.aload X4.here hx rfl (hb hby d1_19) rfl rfl k) ?_
  obtain ⟨T6, X6, e6, st6⟩ := getF X4 hx hZ hown (host := "") (Or.inl (hw _ (List.mem_of_getElem? (i := 26) rfl))) Via.refl e4 (F_STARTING_value.ext x1) (g := (mkF m 21 #[.val (.int v), .val (.ref b1), .val (.int (7 : Int32)), .val (.int (1 : Int32)), .val (.ref (A 2))] [(.ref (A 2))])) rfl rfl (hb hby d1_21)
  refine own_go (B := T6.setTop (mkF m 24 #[.val (.int v), .val (.ref b1), .val (.int (7 : Int32)), .val (.int (1 : Int32)), .val (.ref (A 2))] [(.int (1 : Int32))])) st6 ?_
  refine own_go (B := T6.setTop (mkF m 25 #[.val (.int v), .val (.ref b1), .val (.int (7 : Int32)), .val (.int (1 : Int32)), .val (.ref (A 2))] [(.int v), (.int (1 : Int32))])) (fun _ k => XS.iloadN X6.here hx rfl (hb hby d1_24) rfl k) ?_
  refine own_go (B := T6.setTop (mkF m 31 #[.val (.int v), .val (.ref b1), .val (.int (7 : Int32)), .val (.int (1 : Int32)), .val (.ref (A 2))] [])) (fun _ k => XS.icmpYes X6.here hx rfl (pc0 := 25) (pc' := 31) rfl (hb hby d1_25) rfl (feq (fun q => k1 q.symm)).2 (by decide) (by decide) k) ?_
  refine own_go (B := T6.setTop (mkF m 34 #[.val (.int v), .val (.ref b1), .val (.int (7 : Int32)), .val (.int ((1 : Int32) + (1 : Int32))), .val (.ref (A 2))] [])) (fun _ k => XT.iincV X6.here hx rfl (1 : Int32) (hb hby d1_31) rfl rfl (l' := #[.val (.int v), .val (.ref b1), .val (.int (7 : Int32)), .val (.int ((1 : Int32) + (1 : Int32))), .val (.ref (A 2))]) rfl k) ?_
  rw [(by decide +kernel : ((1 : Int32) + (1 : Int32)) = (2 : Int32))]
  refine own_go (B := T6.setTop (mkF m 9 #[.val (.int v), .val (.ref b1), .val (.int (7 : Int32)), .val (.int (2 : Int32)), .val (.ref (A 2))] [])) (fun _ k => XS.goto X6.here hx rfl (pc0 := 34) (pc' := 9) rfl (hb hby d1_34) (by decide) (by decide) k) ?_
  refine own_go (B := T6.setTop (mkF m 10 #[.val (.int v), .val (.ref b1), .val (.int (7 : Int32)), .val (.int (2 : Int32)), .val (.ref (A 2))] [(.int (2 : Int32))])) (fun _ k => XS.iloadN X6.here hx rfl (hb hby d1_9) rfl k) ?_
  refine own_go (B := T6.setTop (mkF m 11 #[.val (.int v), .val (.ref b1), .val (.int (7 : Int32)), .val (.int (2 : Int32)), .val (.ref (A 2))] [(.int (7 : Int32)), (.int (2 : Int32))])) (fun _ k => XS.iloadN X6.here hx rfl (hb hby d1_10) rfl k) ?_
  refine own_go (B := T6.setTop (mkF m 14 #[.val (.int v), .val (.ref b1), .val (.int (7 : Int32)), .val (.int (2 : Int32)), .val (.ref (A 2))] [])) (fun _ k => XS.icmpNo X6.here hx rfl (hb hby d1_11) rfl (by decide) k) ?_
  refine own_go (B := T6.setTop (mkF m 15 #[.val (.int v), .val (.ref b1), .val (.int (7 : Int32)), .val (.int (2 : Int32)), .val (.ref (A 2))] [(.ref b1)])) (fun _ k => XS.aloadN X6.here hx rfl (hb hby d1_14) rfl rfl k) ?_
  refine own_go (B := T6.setTop (mkF m 16 #[.val (.int v), .val (.ref b1), .val (.int (7 : Int32)), .val (.int (2 : Int32)), .val (.ref (A 2))] [(.int (2 : Int32)), (.ref b1)])) (fun _ k => XS.iloadN X6.here hx rfl (hb hby d1_15) rfl k) ?_
  obtain ⟨cl7, Ar7, q7a, q7b, q7c, q7d, q7e⟩ := id V1
  have i7 := inb_of (j := (2 : Int32)) q7b ⟨by decide, by decide⟩
  refine own_go (B := T6.setTop (mkF m 17 #[.val (.int v), .val (.ref b1), .val (.int (7 : Int32)), .val (.int (2 : Int32)), .val (.ref (A 2))] [(.ref (A 3))])) (fun _ k => X6.aaload hx (j := (2 : Int32)) (v := (.ref (A 3))) (by rw [e6]; exact Ar7.1) (State.isArrayOf_alike hZ.alike Ar7.2.1) rfl Ar7.2.2 i7 (Has.at q7d i7 rfl) (g := (mkF m 16 #[.val (.int v), .val (.ref b1), .val (.int (7 : Int32)), .val (.int (2 : Int32)), .val (.ref (A 2))] [(.int (2 : Int32)), (.ref b1)])) rfl rfl (hb hby d1_16) _ k) ?_
  refine own_go (B := T6.setTop (mkF m 19 #[.val (.int v), .val (.ref b1), .val (.int (7 : Int32)), .val (.int (2 : Int32)), .val (.ref (A 3))] [])) (fun _ k => XS.astore X6.here hx rfl (hb hby d1_17) rfl rfl (l' := #[.val (.int v), .val (.ref b1), .val (.int (7 : Int32)), .val (.int (2 : Int32)), .val (.ref (A 3))]) rfl k) ?_
  refine own_go (B := T6.setTop (mkF m 21 #[.val (.int v), .val (.ref b1), .val (.int (7 : Int32)), .val (.int (2 : Int32)), .val (.ref (A 3))] [(.ref (A 3))])) (fun _ k => XS.aload X6.here hx rfl (hb hby d1_19) rfl rfl k) ?_
  obtain ⟨T8, X8, e8, st8⟩ := getF X6 hx hZ hown (host := "") (Or.inl (hw _ (List.mem_of_getElem? (i := 26) rfl))) Via.refl e6 (F_RECOVERY_value.ext x1) (g := (mkF m 21 #[.val (.int v), .val (.ref b1), .val (.int (7 : Int32)), .val (.int (2 : Int32)), .val (.ref (A 3))] [(.ref (A 3))])) rfl rfl (hb hby d1_21)
  refine own_go (B := T8.setTop (mkF m 24 #[.val (.int v), .val (.ref b1), .val (.int (7 : Int32)), .val (.int (2 : Int32)), .val (.ref (A 3))] [(.int (2 : Int32))])) st8 ?_
  refine own_go (B := T8.setTop (mkF m 25 #[.val (.int v), .val (.ref b1), .val (.int (7 : Int32)), .val (.int (2 : Int32)), .val (.ref (A 3))] [(.int v), (.int (2 : Int32))])) (fun _ k => XS.iloadN X8.here hx rfl (hb hby d1_24) rfl k) ?_
  refine own_go (B := T8.setTop (mkF m 31 #[.val (.int v), .val (.ref b1), .val (.int (7 : Int32)), .val (.int (2 : Int32)), .val (.ref (A 3))] [])) (fun _ k => XS.icmpYes X8.here hx rfl (pc0 := 25) (pc' := 31) rfl (hb hby d1_25) rfl (feq (fun q => k2 q.symm)).2 (by decide) (by decide) k) ?_
  refine own_go (B := T8.setTop (mkF m 34 #[.val (.int v), .val (.ref b1), .val (.int (7 : Int32)), .val (.int ((2 : Int32) + (1 : Int32))), .val (.ref (A 3))] [])) (fun _ k => XT.iincV X8.here hx rfl (1 : Int32) (hb hby d1_31) rfl rfl (l' := #[.val (.int v), .val (.ref b1), .val (.int (7 : Int32)), .val (.int ((2 : Int32) + (1 : Int32))), .val (.ref (A 3))]) rfl k) ?_
  rw [(by decide +kernel : ((2 : Int32) + (1 : Int32)) = (3 : Int32))]
  refine own_go (B := T8.setTop (mkF m 9 #[.val (.int v), .val (.ref b1), .val (.int (7 : Int32)), .val (.int (3 : Int32)), .val (.ref (A 3))] [])) (fun _ k => XS.goto X8.here hx rfl (pc0 := 34) (pc' := 9) rfl (hb hby d1_34) (by decide) (by decide) k) ?_
  refine own_go (B := T8.setTop (mkF m 10 #[.val (.int v), .val (.ref b1), .val (.int (7 : Int32)), .val (.int (3 : Int32)), .val (.ref (A 3))] [(.int (3 : Int32))])) (fun _ k => XS.iloadN X8.here hx rfl (hb hby d1_9) rfl k) ?_
  refine own_go (B := T8.setTop (mkF m 11 #[.val (.int v), .val (.ref b1), .val (.int (7 : Int32)), .val (.int (3 : Int32)), .val (.ref (A 3))] [(.int (7 : Int32)), (.int (3 : Int32))])) (fun _ k => XS.iloadN X8.here hx rfl (hb hby d1_10) rfl k) ?_
  refine own_go (B := T8.setTop (mkF m 14 #[.val (.int v), .val (.ref b1), .val (.int (7 : Int32)), .val (.int (3 : Int32)), .val (.ref (A 3))] [])) (fun _ k => XS.icmpNo X8.here hx rfl (hb hby d1_11) rfl (by decide) k) ?_
  refine own_go (B := T8.setTop (mkF m 15 #[.val (.int v), .val (.ref b1), .val (.int (7 : Int32)), .val (.int (3 : Int32)), .val (.ref (A 3))] [(.ref b1)])) (fun _ k => XS.aloadN X8.here hx rfl (hb hby d1_14) rfl rfl k) ?_
  refine own_go (B := T8.setTop (mkF m 16 #[.val (.int v), .val (.ref b1), .val (.int (7 : Int32)), .val (.int (3 : Int32)), .val (.ref (A 3))] [(.int (3 : Int32)), (.ref b1)])) (fun _ k => XS.iloadN X8.here hx rfl (hb hby d1_15) rfl k) ?_
  obtain ⟨cl9, Ar9, q9a, q9b, q9c, q9d, q9e⟩ := id V1
  have i9 := inb_of (j := (3 : Int32)) q9b ⟨by decide, by decide⟩
  refine own_go (B := T8.setTop (mkF m 17 #[.val (.int v), .val (.ref b1), .val (.int (7 : Int32)), .val (.int (3 : Int32)), .val (.ref (A 3))] [(.ref (A 4))])) (fun _ k => X8.aaload hx (j := (3 : Int32)) (v := (.ref (A 4))) (by rw [e8]; exact Ar9.1) (State.isArrayOf_alike hZ.alike Ar9.2.1) rfl Ar9.2.2 i9 (Has.at q9d i9 rfl) (g := (mkF m 16 #[.val (.int v), .val (.ref b1), .val (.int (7 : Int32)), .val (.int (3 : Int32)), .val (.ref (A 3))] [(.int (3 : Int32)), (.ref b1)])) rfl rfl (hb hby d1_16) _ k) ?_
  refine own_go (B := T8.setTop (mkF m 19 #[.val (.int v), .val (.ref b1), .val (.int (7 : Int32)), .val (.int (3 : Int32)), .val (.ref (A 4))] [])) (fun _ k => XS.astore X8.here hx rfl (hb hby d1_17) rfl rfl (l' := #[.val (.int v), .val (.ref b1), .val (.int (7 : Int32)), .val (.int (3 : Int32)), .val (.ref (A 4))]) rfl k) ?_
  refine own_go (B := T8.setTop (mkF m 21 #[.val (.int v), .val (.ref b1), .val (.int (7 : Int32)), .val (.int (3 : Int32)), .val (.ref (A 4))] [(.ref (A 4))])) (fun _ k => XS.aload X8.here hx rfl (hb hby d1_19) rfl rfl k) ?_
  obtain ⟨T10, X10, e10, st10⟩ := getF X8 hx hZ hown (host := "") (Or.inl (hw _ (List.mem_of_getElem? (i := 26) rfl))) Via.refl e8 (F_RUNNING_value.ext x1) (g := (mkF m 21 #[.val (.int v), .val (.ref b1), .val (.int (7 : Int32)), .val (.int (3 : Int32)), .val (.ref (A 4))] [(.ref (A 4))])) rfl rfl (hb hby d1_21)
  refine own_go (B := T10.setTop (mkF m 24 #[.val (.int v), .val (.ref b1), .val (.int (7 : Int32)), .val (.int (3 : Int32)), .val (.ref (A 4))] [(.int (3 : Int32))])) st10 ?_
  refine own_go (B := T10.setTop (mkF m 25 #[.val (.int v), .val (.ref b1), .val (.int (7 : Int32)), .val (.int (3 : Int32)), .val (.ref (A 4))] [(.int v), (.int (3 : Int32))])) (fun _ k => XS.iloadN X10.here hx rfl (hb hby d1_24) rfl k) ?_
  refine own_go (B := T10.setTop (mkF m 31 #[.val (.int v), .val (.ref b1), .val (.int (7 : Int32)), .val (.int (3 : Int32)), .val (.ref (A 4))] [])) (fun _ k => XS.icmpYes X10.here hx rfl (pc0 := 25) (pc' := 31) rfl (hb hby d1_25) rfl (feq (fun q => k3 q.symm)).2 (by decide) (by decide) k) ?_
  refine own_go (B := T10.setTop (mkF m 34 #[.val (.int v), .val (.ref b1), .val (.int (7 : Int32)), .val (.int ((3 : Int32) + (1 : Int32))), .val (.ref (A 4))] [])) (fun _ k => XT.iincV X10.here hx rfl (1 : Int32) (hb hby d1_31) rfl rfl (l' := #[.val (.int v), .val (.ref b1), .val (.int (7 : Int32)), .val (.int ((3 : Int32) + (1 : Int32))), .val (.ref (A 4))]) rfl k) ?_
  rw [(by decide +kernel : ((3 : Int32) + (1 : Int32)) = (4 : Int32))]
  refine own_go (B := T10.setTop (mkF m 9 #[.val (.int v), .val (.ref b1), .val (.int (7 : Int32)), .val (.int (4 : Int32)), .val (.ref (A 4))] [])) (fun _ k => XS.goto X10.here hx rfl (pc0 := 34) (pc' := 9) rfl (hb hby d1_34) (by decide) (by decide) k) ?_
  refine own_go (B := T10.setTop (mkF m 10 #[.val (.int v), .val (.ref b1), .val (.int (7 : Int32)), .val (.int (4 : Int32)), .val (.ref (A 4))] [(.int (4 : Int32))])) (fun _ k => XS.iloadN X10.here hx rfl (hb hby d1_9) rfl k) ?_
  refine own_go (B := T10.setTop (mkF m 11 #[.val (.int v), .val (.ref b1), .val (.int (7 : Int32)), .val (.int (4 : Int32)), .val (.ref (A 4))] [(.int (7 : Int32)), (.int (4 : Int32))])) (fun _ k => XS.iloadN X10.here hx rfl (hb hby d1_10) rfl k) ?_
  refine own_go (B := T10.setTop (mkF m 14 #[.val (.int v), .val (.ref b1), .val (.int (7 : Int32)), .val (.int (4 : Int32)), .val (.ref (A 4))] [])) (fun _ k => XS.icmpNo X10.here hx rfl (hb hby d1_11) rfl (by decide) k) ?_
  refine own_go (B := T10.setTop (mkF m 15 #[.val (.int v), .val (.ref b1), .val (.int (7 : Int32)), .val (.int (4 : Int32)), .val (.ref (A 4))] [(.ref b1)])) (fun _ k => XS.aloadN X10.here hx rfl (hb hby d1_14) rfl rfl k) ?_
  refine own_go (B := T10.setTop (mkF m 16 #[.val (.int v), .val (.ref b1), .val (.int (7 : Int32)), .val (.int (4 : Int32)), .val (.ref (A 4))] [(.int (4 : Int32)), (.ref b1)])) (fun _ k => XS.iloadN X10.here hx rfl (hb hby d1_15) rfl k) ?_
  obtain ⟨cl11, Ar11, q11a, q11b, q11c, q11d, q11e⟩ := id V1
  have i11 := inb_of (j := (4 : Int32)) q11b ⟨by decide, by decide⟩
  refine own_go (B := T10.setTop (mkF m 17 #[.val (.int v), .val (.ref b1), .val (.int (7 : Int32)), .val (.int (4 : Int32)), .val (.ref (A 4))] [(.ref (A 5))])) (fun _ k => X10.aaload hx (j := (4 : Int32)) (v := (.ref (A 5))) (by rw [e10]; exact Ar11.1) (State.isArrayOf_alike hZ.alike Ar11.2.1) rfl Ar11.2.2 i11 (Has.at q11d i11 rfl) (g := (mkF m 16 #[.val (.int v), .val (.ref b1), .val (.int (7 : Int32)), .val (.int (4 : Int32)), .val (.ref (A 4))] [(.int (4 : Int32)), (.ref b1)])) rfl rfl (hb hby d1_16) _ k) ?_
  refine own_go (B := T10.setTop (mkF m 19 #[.val (.int v), .val (.ref b1), .val (.int (7 : Int32)), .val (.int (4 : Int32)), .val (.ref (A 5))] [])) (fun _ k => XS.astore X10.here hx rfl (hb hby d1_17) rfl rfl (l' := #[.val (.int v), .val (.ref b1), .val (.int (7 : Int32)), .val (.int (4 : Int32)), .val (.ref (A 5))]) rfl k) ?_
  refine own_go (B := T10.setTop (mkF m 21 #[.val (.int v), .val (.ref b1), .val (.int (7 : Int32)), .val (.int (4 : Int32)), .val (.ref (A 5))] [(.ref (A 5))])) (fun _ k => XS.aload X10.here hx rfl (hb hby d1_19) rfl rfl k) ?_
  obtain ⟨T12, X12, e12, st12⟩ := getF X10 hx hZ hown (host := "") (Or.inl (hw _ (List.mem_of_getElem? (i := 26) rfl))) Via.refl e10 (F_PENDING_CONTROLLED_SHUTDOWN_value.ext x1) (g := (mkF m 21 #[.val (.int v), .val (.ref b1), .val (.int (7 : Int32)), .val (.int (4 : Int32)), .val (.ref (A 5))] [(.ref (A 5))])) rfl rfl (hb hby d1_21)
  refine own_go (B := T12.setTop (mkF m 24 #[.val (.int v), .val (.ref b1), .val (.int (7 : Int32)), .val (.int (4 : Int32)), .val (.ref (A 5))] [(.int (6 : Int32))])) st12 ?_
  refine own_go (B := T12.setTop (mkF m 25 #[.val (.int v), .val (.ref b1), .val (.int (7 : Int32)), .val (.int (4 : Int32)), .val (.ref (A 5))] [(.int v), (.int (6 : Int32))])) (fun _ k => XS.iloadN X12.here hx rfl (hb hby d1_24) rfl k) ?_
  refine own_go (B := T12.setTop (mkF m 31 #[.val (.int v), .val (.ref b1), .val (.int (7 : Int32)), .val (.int (4 : Int32)), .val (.ref (A 5))] [])) (fun _ k => XS.icmpYes X12.here hx rfl (pc0 := 25) (pc' := 31) rfl (hb hby d1_25) rfl (feq (fun q => k6 q.symm)).2 (by decide) (by decide) k) ?_
  refine own_go (B := T12.setTop (mkF m 34 #[.val (.int v), .val (.ref b1), .val (.int (7 : Int32)), .val (.int ((4 : Int32) + (1 : Int32))), .val (.ref (A 5))] [])) (fun _ k => XT.iincV X12.here hx rfl (1 : Int32) (hb hby d1_31) rfl rfl (l' := #[.val (.int v), .val (.ref b1), .val (.int (7 : Int32)), .val (.int ((4 : Int32) + (1 : Int32))), .val (.ref (A 5))]) rfl k) ?_
  rw [(by decide +kernel : ((4 : Int32) + (1 : Int32)) = (5 : Int32))]
  refine own_go (B := T12.setTop (mkF m 9 #[.val (.int v), .val (.ref b1), .val (.int (7 : Int32)), .val (.int (5 : Int32)), .val (.ref (A 5))] [])) (fun _ k => XS.goto X12.here hx rfl (pc0 := 34) (pc' := 9) rfl (hb hby d1_34) (by decide) (by decide) k) ?_
  refine own_go (B := T12.setTop (mkF m 10 #[.val (.int v), .val (.ref b1), .val (.int (7 : Int32)), .val (.int (5 : Int32)), .val (.ref (A 5))] [(.int (5 : Int32))])) (fun _ k => XS.iloadN X12.here hx rfl (hb hby d1_9) rfl k) ?_
  refine own_go (B := T12.setTop (mkF m 11 #[.val (.int v), .val (.ref b1), .val (.int (7 : Int32)), .val (.int (5 : Int32)), .val (.ref (A 5))] [(.int (7 : Int32)), (.int (5 : Int32))])) (fun _ k => XS.iloadN X12.here hx rfl (hb hby d1_10) rfl k) ?_
  refine own_go (B := T12.setTop (mkF m 14 #[.val (.int v), .val (.ref b1), .val (.int (7 : Int32)), .val (.int (5 : Int32)), .val (.ref (A 5))] [])) (fun _ k => XS.icmpNo X12.here hx rfl (hb hby d1_11) rfl (by decide) k) ?_
  refine own_go (B := T12.setTop (mkF m 15 #[.val (.int v), .val (.ref b1), .val (.int (7 : Int32)), .val (.int (5 : Int32)), .val (.ref (A 5))] [(.ref b1)])) (fun _ k => XS.aloadN X12.here hx rfl (hb hby d1_14) rfl rfl k) ?_
  refine own_go (B := T12.setTop (mkF m 16 #[.val (.int v), .val (.ref b1), .val (.int (7 : Int32)), .val (.int (5 : Int32)), .val (.ref (A 5))] [(.int (5 : Int32)), (.ref b1)])) (fun _ k => XS.iloadN X12.here hx rfl (hb hby d1_15) rfl k) ?_
  obtain ⟨cl13, Ar13, q13a, q13b, q13c, q13d, q13e⟩ := id V1
  have i13 := inb_of (j := (5 : Int32)) q13b ⟨by decide, by decide⟩
  refine own_go (B := T12.setTop (mkF m 17 #[.val (.int v), .val (.ref b1), .val (.int (7 : Int32)), .val (.int (5 : Int32)), .val (.ref (A 5))] [(.ref (A 6))])) (fun _ k => X12.aaload hx (j := (5 : Int32)) (v := (.ref (A 6))) (by rw [e12]; exact Ar13.1) (State.isArrayOf_alike hZ.alike Ar13.2.1) rfl Ar13.2.2 i13 (Has.at q13d i13 rfl) (g := (mkF m 16 #[.val (.int v), .val (.ref b1), .val (.int (7 : Int32)), .val (.int (5 : Int32)), .val (.ref (A 5))] [(.int (5 : Int32)), (.ref b1)])) rfl rfl (hb hby d1_16) _ k) ?_
  refine own_go (B := T12.setTop (mkF m 19 #[.val (.int v), .val (.ref b1), .val (.int (7 : Int32)), .val (.int (5 : Int32)), .val (.ref (A 6))] [])) (fun _ k => XS.astore X12.here hx rfl (hb hby d1_17) rfl rfl (l' := #[.val (.int v), .val (.ref b1), .val (.int (7 : Int32)), .val (.int (5 : Int32)), .val (.ref (A 6))]) rfl k) ?_
  refine own_go (B := T12.setTop (mkF m 21 #[.val (.int v), .val (.ref b1), .val (.int (7 : Int32)), .val (.int (5 : Int32)), .val (.ref (A 6))] [(.ref (A 6))])) (fun _ k => XS.aload X12.here hx rfl (hb hby d1_19) rfl rfl k) ?_
  obtain ⟨T14, X14, e14, st14⟩ := getF X12 hx hZ hown (host := "") (Or.inl (hw _ (List.mem_of_getElem? (i := 26) rfl))) Via.refl e12 (F_SHUTTING_DOWN_value.ext x1) (g := (mkF m 21 #[.val (.int v), .val (.ref b1), .val (.int (7 : Int32)), .val (.int (5 : Int32)), .val (.ref (A 6))] [(.ref (A 6))])) rfl rfl (hb hby d1_21)
  refine own_go (B := T14.setTop (mkF m 24 #[.val (.int v), .val (.ref b1), .val (.int (7 : Int32)), .val (.int (5 : Int32)), .val (.ref (A 6))] [(.int (7 : Int32))])) st14 ?_
  refine own_go (B := T14.setTop (mkF m 25 #[.val (.int v), .val (.ref b1), .val (.int (7 : Int32)), .val (.int (5 : Int32)), .val (.ref (A 6))] [(.int v), (.int (7 : Int32))])) (fun _ k => XS.iloadN X14.here hx rfl (hb hby d1_24) rfl k) ?_
  refine own_go (B := T14.setTop (mkF m 31 #[.val (.int v), .val (.ref b1), .val (.int (7 : Int32)), .val (.int (5 : Int32)), .val (.ref (A 6))] [])) (fun _ k => XS.icmpYes X14.here hx rfl (pc0 := 25) (pc' := 31) rfl (hb hby d1_25) rfl (feq (fun q => k7 q.symm)).2 (by decide) (by decide) k) ?_
  refine own_go (B := T14.setTop (mkF m 34 #[.val (.int v), .val (.ref b1), .val (.int (7 : Int32)), .val (.int ((5 : Int32) + (1 : Int32))), .val (.ref (A 6))] [])) (fun _ k => XT.iincV X14.here hx rfl (1 : Int32) (hb hby d1_31) rfl rfl (l' := #[.val (.int v), .val (.ref b1), .val (.int (7 : Int32)), .val (.int ((5 : Int32) + (1 : Int32))), .val (.ref (A 6))]) rfl k) ?_
  rw [(by decide +kernel : ((5 : Int32) + (1 : Int32)) = (6 : Int32))]
  refine own_go (B := T14.setTop (mkF m 9 #[.val (.int v), .val (.ref b1), .val (.int (7 : Int32)), .val (.int (6 : Int32)), .val (.ref (A 6))] [])) (fun _ k => XS.goto X14.here hx rfl (pc0 := 34) (pc' := 9) rfl (hb hby d1_34) (by decide) (by decide) k) ?_
  refine own_go (B := T14.setTop (mkF m 10 #[.val (.int v), .val (.ref b1), .val (.int (7 : Int32)), .val (.int (6 : Int32)), .val (.ref (A 6))] [(.int (6 : Int32))])) (fun _ k => XS.iloadN X14.here hx rfl (hb hby d1_9) rfl k) ?_
  refine own_go (B := T14.setTop (mkF m 11 #[.val (.int v), .val (.ref b1), .val (.int (7 : Int32)), .val (.int (6 : Int32)), .val (.ref (A 6))] [(.int (7 : Int32)), (.int (6 : Int32))])) (fun _ k => XS.iloadN X14.here hx rfl (hb hby d1_10) rfl k) ?_
  refine own_go (B := T14.setTop (mkF m 14 #[.val (.int v), .val (.ref b1), .val (.int (7 : Int32)), .val (.int (6 : Int32)), .val (.ref (A 6))] [])) (fun _ k => XS.icmpNo X14.here hx rfl (hb hby d1_11) rfl (by decide) k) ?_
  refine own_go (B := T14.setTop (mkF m 15 #[.val (.int v), .val (.ref b1), .val (.int (7 : Int32)), .val (.int (6 : Int32)), .val (.ref (A 6))] [(.ref b1)])) (fun _ k => XS.aloadN X14.here hx rfl (hb hby d1_14) rfl rfl k) ?_
  refine own_go (B := T14.setTop (mkF m 16 #[.val (.int v), .val (.ref b1), .val (.int (7 : Int32)), .val (.int (6 : Int32)), .val (.ref (A 6))] [(.int (6 : Int32)), (.ref b1)])) (fun _ k => XS.iloadN X14.here hx rfl (hb hby d1_15) rfl k) ?_
  obtain ⟨cl15, Ar15, q15a, q15b, q15c, q15d, q15e⟩ := id V1
  have i15 := inb_of (j := (6 : Int32)) q15b ⟨by decide, by decide⟩
  refine own_go (B := T14.setTop (mkF m 17 #[.val (.int v), .val (.ref b1), .val (.int (7 : Int32)), .val (.int (6 : Int32)), .val (.ref (A 6))] [(.ref (A 7))])) (fun _ k => X14.aaload hx (j := (6 : Int32)) (v := (.ref (A 7))) (by rw [e14]; exact Ar15.1) (State.isArrayOf_alike hZ.alike Ar15.2.1) rfl Ar15.2.2 i15 (Has.at q15d i15 rfl) (g := (mkF m 16 #[.val (.int v), .val (.ref b1), .val (.int (7 : Int32)), .val (.int (6 : Int32)), .val (.ref (A 6))] [(.int (6 : Int32)), (.ref b1)])) rfl rfl (hb hby d1_16) _ k) ?_
  refine own_go (B := T14.setTop (mkF m 19 #[.val (.int v), .val (.ref b1), .val (.int (7 : Int32)), .val (.int (6 : Int32)), .val (.ref (A 7))] [])) (fun _ k => XS.astore X14.here hx rfl (hb hby d1_17) rfl rfl (l' := #[.val (.int v), .val (.ref b1), .val (.int (7 : Int32)), .val (.int (6 : Int32)), .val (.ref (A 7))]) rfl k) ?_
  refine own_go (B := T14.setTop (mkF m 21 #[.val (.int v), .val (.ref b1), .val (.int (7 : Int32)), .val (.int (6 : Int32)), .val (.ref (A 7))] [(.ref (A 7))])) (fun _ k => XS.aload X14.here hx rfl (hb hby d1_19) rfl rfl k) ?_
  obtain ⟨T16, X16, e16, st16⟩ := getF X14 hx hZ hown (host := "") (Or.inl (hw _ (List.mem_of_getElem? (i := 26) rfl))) Via.refl e14 (F_UNKNOWN_value.ext x1) (g := (mkF m 21 #[.val (.int v), .val (.ref b1), .val (.int (7 : Int32)), .val (.int (6 : Int32)), .val (.ref (A 7))] [(.ref (A 7))])) rfl rfl (hb hby d1_21)
  refine own_go (B := T16.setTop (mkF m 24 #[.val (.int v), .val (.ref b1), .val (.int (7 : Int32)), .val (.int (6 : Int32)), .val (.ref (A 7))] [(.int (127 : Int32))])) st16 ?_
  refine own_go (B := T16.setTop (mkF m 25 #[.val (.int v), .val (.ref b1), .val (.int (7 : Int32)), .val (.int (6 : Int32)), .val (.ref (A 7))] [(.int v), (.int (127 : Int32))])) (fun _ k => XS.iloadN X16.here hx rfl (hb hby d1_24) rfl k) ?_
  by_cases hc2517 : (127 : Int32) = v
  · refine own_go (B := T16.setTop (mkF m 28 #[.val (.int v), .val (.ref b1), .val (.int (7 : Int32)), .val (.int (6 : Int32)), .val (.ref (A 7))] [])) (fun _ k => XS.icmpNo X16.here hx rfl (hb hby d1_25) rfl (teq hc2517).2 k) ?_
    refine own_go (B := T16.setTop (mkF m 30 #[.val (.int v), .val (.ref b1), .val (.int (7 : Int32)), .val (.int (6 : Int32)), .val (.ref (A 7))] [(.ref (A 7))])) (fun _ k => XS.aload X16.here hx rfl (hb hby d1_28) rfl rfl k) ?_
    exact own_ret X16 hx (t := (.object "com/example/quorumhand/quorumhand/engine/BrokerState")) hrt rfl (Or.inr (Or.inr (Or.inr (Or.inr ⟨rfl, rfl, rfl⟩)))) (hb hby d1_30) hlk ⟨rfl, N1, by rw [e16]; exact E1⟩ (by decide) (by decide)
  · refine own_go (B := T16.setTop (mkF m 31 #[.val (.int v), .val (.ref b1), .val (.int (7 : Int32)), .val (.int (6 : Int32)), .val (.ref (A 7))] [])) (fun _ k => XS.icmpYes X16.here hx rfl (pc0 := 25) (pc' := 31) rfl (hb hby d1_25) rfl (feq hc2517).2 (by decide) (by decide) k) ?_
    refine own_go (B := T16.setTop (mkF m 34 #[.val (.int v), .val (.ref b1), .val (.int (7 : Int32)), .val (.int ((6 : Int32) + (1 : Int32))), .val (.ref (A 7))] [])) (fun _ k => XT.iincV X16.here hx rfl (1 : Int32) (hb hby d1_31) rfl rfl (l' := #[.val (.int v), .val (.ref b1), .val (.int (7 : Int32)), .val (.int ((6 : Int32) + (1 : Int32))), .val (.ref (A 7))]) rfl k) ?_
    rw [(by decide +kernel : ((6 : Int32) + (1 : Int32)) = (7 : Int32))]
    refine own_go (B := T16.setTop (mkF m 9 #[.val (.int v), .val (.ref b1), .val (.int (7 : Int32)), .val (.int (7 : Int32)), .val (.ref (A 7))] [])) (fun _ k => XS.goto X16.here hx rfl (pc0 := 34) (pc' := 9) rfl (hb hby d1_34) (by decide) (by decide) k) ?_
    refine own_go (B := T16.setTop (mkF m 10 #[.val (.int v), .val (.ref b1), .val (.int (7 : Int32)), .val (.int (7 : Int32)), .val (.ref (A 7))] [(.int (7 : Int32))])) (fun _ k => XS.iloadN X16.here hx rfl (hb hby d1_9) rfl k) ?_
    refine own_go (B := T16.setTop (mkF m 11 #[.val (.int v), .val (.ref b1), .val (.int (7 : Int32)), .val (.int (7 : Int32)), .val (.ref (A 7))] [(.int (7 : Int32)), (.int (7 : Int32))])) (fun _ k => XS.iloadN X16.here hx rfl (hb hby d1_10) rfl k) ?_
    refine own_go (B := T16.setTop (mkF m 37 #[.val (.int v), .val (.ref b1), .val (.int (7 : Int32)), .val (.int (7 : Int32)), .val (.ref (A 7))] [])) (fun _ k => XS.icmpYes X16.here hx rfl (pc0 := 11) (pc' := 37) rfl (hb hby d1_11) rfl (by decide) (by decide) (by decide) k) ?_
    obtain ⟨T18, X18, e18, st18⟩ := getS2 X16 hx hZ hown (host := "") (Or.inl (hw _ (List.mem_of_getElem? (i := 39) rfl))) Via.refl e16 (S_UNKNOWN.ext x1) (g := (mkF m 37 #[.val (.int v), .val (.ref b1), .val (.int (7 : Int32)), .val (.int (7 : Int32)), .val (.ref (A 7))] [])) rfl (hb hby d1_37)
    refine own_go (B := T18.setTop (mkF m 40 #[.val (.int v), .val (.ref b1), .val (.int (7 : Int32)), .val (.int (7 : Int32)), .val (.ref (A 7))] [(.ref (A 7))])) st18 ?_
    exact own_ret X18 hx (t := (.object "com/example/quorumhand/quorumhand/engine/BrokerState")) hrt rfl (Or.inr (Or.inr (Or.inr (Or.inr ⟨rfl, rfl, rfl⟩)))) (hb hby d1_40) hlk ⟨rfl, N1, by rw [e18]; exact E1⟩ (by decide) (by decide)
set_option maxRecDepth 65536 in
set_option maxHeartbeats 40000000 in
theorem rm3_0 (l : Launch) (Z : State) (a0 : Array Value) (hw : ∀ d ∈ tables_1, d.before a0 Z = true) (ws : List Jvm.Cond)  (A : Nat → Addr) (hW : own_W Z A) (h0 : Heap) (x0 : Ext Z.heap h0)  :
    own_Met l Z (⟨"com/example/quorumhand/quorumhand/engine/BrokerStateOfPinLaw", "expected", "(I)Lcom/example/quorumhand/quorumhand/engine/BrokerState;"⟩ : MethodName) method_2_code 1 (some (.object "com/example/quorumhand/quorumhand/engine/BrokerState")) ws ({ frames := 0, cells := 0, slots := 0, locals := 0 } : Room) #[(.int (0 : Int32))] h0 (fun v_ h_ L_ => v_ = some (.ref (A 1)) ∧ Fr Z.heap.size L_ ∧ h_ = h0) := by
  refine own_body (plainFor_of_name pn_1) fun p e s m below meth c s₁ hx hby hml hown hnm hlk hrt hZ X0 e0 => ?_
  have N0 := Fr.nil Z.heap.size
  have hW' := hW
  obtain ⟨-, -, S_NOT_RUNNING, -, -, -, -, -, -, -, -, -, -, -, -, -, -, -, -, -, -, -, -, -, -, -, -, -, -, -, -⟩ := hW'
  refine own_go (B := s₁.setTop (mkF m 0 #[.val (.int (0 : Int32))] [])) (fun t k => castTop (ef_3 m (0 : Int32)) k) ?_
  refine own_go (B := s₁.setTop (mkF m 1 #[.val (.int (0 : Int32))] [(.int (0 : Int32))])) (fun _ k => XS.iloadN X0.here hx rfl (hb hby d3_0) rfl k) ?_
  refine own_go (B := s₁.setTop (mkF m 4 #[.val (.int (0 : Int32))] [])) (fun _ k => XS.ifNo X0.here hx rfl (hb hby d3_1) rfl (by decide) k) ?_
  obtain ⟨T1, X1, e1, st1⟩ := getS2 X0 hx hZ hown (host := "") (Or.inl (hw _ (List.mem_of_getElem? (i := 32) rfl))) Via.refl e0 (S_NOT_RUNNING.ext x0) (g := (mkF m 4 #[.val (.int (0 : Int32))] [])) rfl (hb hby d3_4)
  refine own_go (B := T1.setTop (mkF m 7 #[.val (.int (0 : Int32))] [(.ref (A 1))])) st1 ?_
  exact own_ret X1 hx (t := (.object "com/example/quorumhand/quorumhand/engine/BrokerState")) hrt rfl (Or.inr (Or.inr (Or.inr (Or.inr ⟨rfl, rfl, rfl⟩)))) (hb hby d3_7) hlk ⟨rfl, N0, e1⟩ (by decide) (by decide)
set_option maxRecDepth 65536 in
set_option maxHeartbeats 40000000 in
theorem rm4_0 (l : Launch) (Z : State) (a0 : Array Value) (hw : ∀ d ∈ tables_1, d.before a0 Z = true) (ws : List Jvm.Cond)  (A : Nat → Addr) (hW : own_W Z A) (h0 : Heap) (x0 : Ext Z.heap h0)  :
    own_Met l Z (⟨"com/example/quorumhand/quorumhand/engine/BrokerState", "value", "()I"⟩ : MethodName) prog_4_method_4_code 1 (some .int) ws ({ frames := 0, cells := 0, slots := 0, locals := 0 } : Room) #[(.ref (A 1))] h0 (fun v_ h_ L_ => v_ = some (.int (0 : Int32)) ∧ Fr Z.heap.size L_ ∧ h_ = h0) := by
  refine own_body (plainFor_of_name pn_0) fun p e s m below meth c s₁ hx hby hml hown hnm hlk hrt hZ X0 e0 => ?_
  have N0 := Fr.nil Z.heap.size
  have hW' := hW
  obtain ⟨-, -, -, -, -, -, -, -, -, -, -, -, -, -, -, -, -, F_NOT_RUNNING_value, -, -, -, -, -, -, -, -, -, -, -, -, -⟩ := hW'
  refine own_go (B := s₁.setTop (mkF m 0 #[.val (.ref (A 1))] [])) (fun t k => castTop (ef_4 m (A 1)) k) ?_
  refine own_go (B := s₁.setTop (mkF m 1 #[.val (.ref (A 1))] [(.ref (A 1))])) (fun _ k => XS.aloadN X0.here hx rfl (hb hby d4_0) rfl rfl k) ?_
  obtain ⟨T1, X1, e1, st1⟩ := getF X0 hx hZ hown (host := "") (Or.inl (hw _ (List.mem_of_getElem? (i := 26) rfl))) Via.refl e0 (F_NOT_RUNNING_value.ext x0) (g := (mkF m 1 #[.val (.ref (A 1))] [(.ref (A 1))])) rfl rfl (hb hby d4_1)
  refine own_go (B := T1.setTop (mkF m 4 #[.val (.ref (A 1))] [(.int (0 : Int32))])) st1 ?_
  exact own_ret X1 hx (t := .int) hrt rfl (Or.inl ⟨rfl, by simp, _, rfl⟩) (hb hby d4_4) hlk ⟨rfl, N0, e1⟩ (by decide) (by decide)
set_option maxRecDepth 65536 in
set_option maxHeartbeats 40000000 in
theorem rm3_1 (l : Launch) (Z : State) (a0 : Array Value) (hw : ∀ d ∈ tables_1, d.before a0 Z = true) (ws : List Jvm.Cond)  (A : Nat → Addr) (hW : own_W Z A) (h0 : Heap) (x0 : Ext Z.heap h0)  :
    own_Met l Z (⟨"com/example/quorumhand/quorumhand/engine/BrokerStateOfPinLaw", "expected", "(I)Lcom/example/quorumhand/quorumhand/engine/BrokerState;"⟩ : MethodName) method_2_code 1 (some (.object "com/example/quorumhand/quorumhand/engine/BrokerState")) ws ({ frames := 0, cells := 0, slots := 0, locals := 0 } : Room) #[(.int (1 : Int32))] h0 (fun v_ h_ L_ => v_ = some (.ref (A 2)) ∧ Fr Z.heap.size L_ ∧ h_ = h0) := by
  refine own_body (plainFor_of_name pn_1) fun p e s m below meth c s₁ hx hby hml hown hnm hlk hrt hZ X0 e0 => ?_
  have N0 := Fr.nil Z.heap.size
  have hW' := hW
  obtain ⟨-, -, -, -, S_STARTING, -, -, -, -, -, -, -, -, -, -, -, -, -, -, -, -, -, -, -, -, -, -, -, -, -, -⟩ := hW'
  refine own_go (B := s₁.setTop (mkF m 0 #[.val (.int (1 : Int32))] [])) (fun t k => castTop (ef_3 m (1 : Int32)) k) ?_
  refine own_go (B := s₁.setTop (mkF m 1 #[.val (.int (1 : Int32))] [(.int (1 : Int32))])) (fun _ k => XS.iloadN X0.here hx rfl (hb hby d3_0) rfl k) ?_
  refine own_go (B := s₁.setTop (mkF m 8 #[.val (.int (1 : Int32))] [])) (fun _ k => XS.ifYes X0.here hx rfl (pc0 := 1) (pc' := 8) rfl (hb hby d3_1) rfl (by decide) (by decide) (by decide) k) ?_
  refine own_go (B := s₁.setTop (mkF m 9 #[.val (.int (1 : Int32))] [(.int (1 : Int32))])) (fun _ k => XS.iloadN X0.here hx rfl (hb hby d3_8) rfl k) ?_
  refine own_go (B := s₁.setTop (mkF m 10 #[.val (.int (1 : Int32))] [(.int (1 : Int32)), (.int (1 : Int32))])) (fun _ k => XT.iconstV X0.here hx rfl (1 : Int32) (hb hby d3_9) rfl k) ?_
  refine own_go (B := s₁.setTop (mkF m 13 #[.val (.int (1 : Int32))] [])) (fun _ k => XS.icmpNo X0.here hx rfl (hb hby d3_10) rfl (by decide) k) ?_
  obtain ⟨T1, X1, e1, st1⟩ := getS2 X0 hx hZ hown (host := "") (Or.inl (hw _ (List.mem_of_getElem? (i := 42) rfl))) Via.refl e0 (S_STARTING.ext x0) (g := (mkF m 13 #[.val (.int (1 : Int32))] [])) rfl (hb hby d3_13)
  refine own_go (B := T1.setTop (mkF m 16 #[.val (.int (1 : Int32))] [(.ref (A 2))])) st1 ?_
  exact own_ret X1 hx (t := (.object "com/example/quorumhand/quorumhand/engine/BrokerState")) hrt rfl (Or.inr (Or.inr (Or.inr (Or.inr ⟨rfl, rfl, rfl⟩)))) (hb hby d3_16) hlk ⟨rfl, N0, e1⟩ (by decide) (by decide)
set_option maxRecDepth 65536 in
set_option maxHeartbeats 40000000 in
theorem rm4_1 (l : Launch) (Z : State) (a0 : Array Value) (hw : ∀ d ∈ tables_1, d.before a0 Z = true) (ws : List Jvm.Cond)  (A : Nat → Addr) (hW : own_W Z A) (h0 : Heap) (x0 : Ext Z.heap h0)  :
    own_Met l Z (⟨"com/example/quorumhand/quorumhand/engine/BrokerState", "value", "()I"⟩ : MethodName) prog_4_method_4_code 1 (some .int) ws ({ frames := 0, cells := 0, slots := 0, locals := 0 } : Room) #[(.ref (A 2))] h0 (fun v_ h_ L_ => v_ = some (.int (1 : Int32)) ∧ Fr Z.heap.size L_ ∧ h_ = h0) := by
  refine own_body (plainFor_of_name pn_0) fun p e s m below meth c s₁ hx hby hml hown hnm hlk hrt hZ X0 e0 => ?_
  have N0 := Fr.nil Z.heap.size
  have hW' := hW
  obtain ⟨-, -, -, -, -, -, -, -, -, -, -, -, -, -, -, -, -, -, -, -, F_STARTING_value, -, -, -, -, -, -, -, -, -, -⟩ := hW'
  refine own_go (B := s₁.setTop (mkF m 0 #[.val (.ref (A 2))] [])) (fun t k => castTop (ef_4 m (A 2)) k) ?_
  refine own_go (B := s₁.setTop (mkF m 1 #[.val (.ref (A 2))] [(.ref (A 2))])) (fun _ k => XS.aloadN X0.here hx rfl (hb hby d4_0) rfl rfl k) ?_
  obtain ⟨T1, X1, e1, st1⟩ := getF X0 hx hZ hown (host := "") (Or.inl (hw _ (List.mem_of_getElem? (i := 26) rfl))) Via.refl e0 (F_STARTING_value.ext x0) (g := (mkF m 1 #[.val (.ref (A 2))] [(.ref (A 2))])) rfl rfl (hb hby d4_1)
  refine own_go (B := T1.setTop (mkF m 4 #[.val (.ref (A 2))] [(.int (1 : Int32))])) st1 ?_
  exact own_ret X1 hx (t := .int) hrt rfl (Or.inl ⟨rfl, by simp, _, rfl⟩) (hb hby d4_4) hlk ⟨rfl, N0, e1⟩ (by decide) (by decide)
set_option maxRecDepth 65536 in
set_option maxHeartbeats 40000000 in
theorem rm3_2 (l : Launch) (Z : State) (a0 : Array Value) (hw : ∀ d ∈ tables_1, d.before a0 Z = true) (ws : List Jvm.Cond)  (A : Nat → Addr) (hW : own_W Z A) (h0 : Heap) (x0 : Ext Z.heap h0)  :
    own_Met l Z (⟨"com/example/quorumhand/quorumhand/engine/BrokerStateOfPinLaw", "expected", "(I)Lcom/example/quorumhand/quorumhand/engine/BrokerState;"⟩ : MethodName) method_2_code 1 (some (.object "com/example/quorumhand/quorumhand/engine/BrokerState")) ws ({ frames := 0, cells := 0, slots := 0, locals := 0 } : Room) #[(.int (2 : Int32))] h0 (fun v_ h_ L_ => v_ = some (.ref (A 3)) ∧ Fr Z.heap.size L_ ∧ h_ = h0) := by
  refine own_body (plainFor_of_name pn_1) fun p e s m below meth c s₁ hx hby hml hown hnm hlk hrt hZ X0 e0 => ?_
  have N0 := Fr.nil Z.heap.size
  have hW' := hW
  obtain ⟨-, -, -, -, -, -, S_RECOVERY, -, -, -, -, -, -, -, -, -, -, -, -, -, -, -, -, -, -, -, -, -, -, -, -⟩ := hW'
  refine own_go (B := s₁.setTop (mkF m 0 #[.val (.int (2 : Int32))] [])) (fun t k => castTop (ef_3 m (2 : Int32)) k) ?_
  refine own_go (B := s₁.setTop (mkF m 1 #[.val (.int (2 : Int32))] [(.int (2 : Int32))])) (fun _ k => XS.iloadN X0.here hx rfl (hb hby d3_0) rfl k) ?_
  refine own_go (B := s₁.setTop (mkF m 8 #[.val (.int (2 : Int32))] [])) (fun _ k => XS.ifYes X0.here hx rfl (pc0 := 1) (pc' := 8) rfl (hb hby d3_1) rfl (by decide) (by decide) (by decide) k) ?_
  refine own_go (B := s₁.setTop (mkF m 9 #[.val (.int (2 : Int32))] [(.int (2 : Int32))])) (fun _ k => XS.iloadN X0.here hx rfl (hb hby d3_8) rfl k) ?_
  refine own_go (B := s₁.setTop (mkF m 10 #[.val (.int (2 : Int32))] [(.int (1 : Int32)), (.int (2 : Int32))])) (fun _ k => XT.iconstV X0.here hx rfl (1 : Int32) (hb hby d3_9) rfl k) ?_
  refine own_go (B := s₁.setTop (mkF m 17 #[.val (.int (2 : Int32))] [])) (fun _ k => XS.icmpYes X0.here hx rfl (pc0 := 10) (pc' := 17) rfl (hb hby d3_10) rfl (by decide) (by decide) (by decide) k) ?_
  refine own_go (B := s₁.setTop (mkF m 18 #[.val (.int (2 : Int32))] [(.int (2 : Int32))])) (fun _ k => XS.iloadN X0.here hx rfl (hb hby d3_17) rfl k) ?_
  refine own_go (B := s₁.setTop (mkF m 19 #[.val (.int (2 : Int32))] [(.int (2 : Int32)), (.int (2 : Int32))])) (fun _ k => XT.iconstV X0.here hx rfl (2 : Int32) (hb hby d3_18) rfl k) ?_
  refine own_go (B := s₁.setTop (mkF m 22 #[.val (.int (2 : Int32))] [])) (fun _ k => XS.icmpNo X0.here hx rfl (hb hby d3_19) rfl (by decide) k) ?_
  obtain ⟨T1, X1, e1, st1⟩ := getS2 X0 hx hZ hown (host := "") (Or.inl (hw _ (List.mem_of_getElem? (i := 43) rfl))) Via.refl e0 (S_RECOVERY.ext x0) (g := (mkF m 22 #[.val (.int (2 : Int32))] [])) rfl (hb hby d3_22)
  refine own_go (B := T1.setTop (mkF m 25 #[.val (.int (2 : Int32))] [(.ref (A 3))])) st1 ?_
  exact own_ret X1 hx (t := (.object "com/example/quorumhand/quorumhand/engine/BrokerState")) hrt rfl (Or.inr (Or.inr (Or.inr (Or.inr ⟨rfl, rfl, rfl⟩)))) (hb hby d3_25) hlk ⟨rfl, N0, e1⟩ (by decide) (by decide)
set_option maxRecDepth 65536 in
set_option maxHeartbeats 40000000 in
theorem rm4_2 (l : Launch) (Z : State) (a0 : Array Value) (hw : ∀ d ∈ tables_1, d.before a0 Z = true) (ws : List Jvm.Cond)  (A : Nat → Addr) (hW : own_W Z A) (h0 : Heap) (x0 : Ext Z.heap h0)  :
    own_Met l Z (⟨"com/example/quorumhand/quorumhand/engine/BrokerState", "value", "()I"⟩ : MethodName) prog_4_method_4_code 1 (some .int) ws ({ frames := 0, cells := 0, slots := 0, locals := 0 } : Room) #[(.ref (A 3))] h0 (fun v_ h_ L_ => v_ = some (.int (2 : Int32)) ∧ Fr Z.heap.size L_ ∧ h_ = h0) := by
  refine own_body (plainFor_of_name pn_0) fun p e s m below meth c s₁ hx hby hml hown hnm hlk hrt hZ X0 e0 => ?_
  have N0 := Fr.nil Z.heap.size
  have hW' := hW
  obtain ⟨-, -, -, -, -, -, -, -, -, -, -, -, -, -, -, -, -, -, -, -, -, F_RECOVERY_value, -, -, -, -, -, -, -, -, -⟩ := hW'
  refine own_go (B := s₁.setTop (mkF m 0 #[.val (.ref (A 3))] [])) (fun t k => castTop (ef_4 m (A 3)) k) ?_
  refine own_go (B := s₁.setTop (mkF m 1 #[.val (.ref (A 3))] [(.ref (A 3))])) (fun _ k => XS.aloadN X0.here hx rfl (hb hby d4_0) rfl rfl k) ?_
  obtain ⟨T1, X1, e1, st1⟩ := getF X0 hx hZ hown (host := "") (Or.inl (hw _ (List.mem_of_getElem? (i := 26) rfl))) Via.refl e0 (F_RECOVERY_value.ext x0) (g := (mkF m 1 #[.val (.ref (A 3))] [(.ref (A 3))])) rfl rfl (hb hby d4_1)
  refine own_go (B := T1.setTop (mkF m 4 #[.val (.ref (A 3))] [(.int (2 : Int32))])) st1 ?_
  exact own_ret X1 hx (t := .int) hrt rfl (Or.inl ⟨rfl, by simp, _, rfl⟩) (hb hby d4_4) hlk ⟨rfl, N0, e1⟩ (by decide) (by decide)
set_option maxRecDepth 65536 in
set_option maxHeartbeats 40000000 in
theorem rm3_3 (l : Launch) (Z : State) (a0 : Array Value) (hw : ∀ d ∈ tables_1, d.before a0 Z = true) (ws : List Jvm.Cond)  (A : Nat → Addr) (hW : own_W Z A) (h0 : Heap) (x0 : Ext Z.heap h0)  :
    own_Met l Z (⟨"com/example/quorumhand/quorumhand/engine/BrokerStateOfPinLaw", "expected", "(I)Lcom/example/quorumhand/quorumhand/engine/BrokerState;"⟩ : MethodName) method_2_code 1 (some (.object "com/example/quorumhand/quorumhand/engine/BrokerState")) ws ({ frames := 0, cells := 0, slots := 0, locals := 0 } : Room) #[(.int (3 : Int32))] h0 (fun v_ h_ L_ => v_ = some (.ref (A 4)) ∧ Fr Z.heap.size L_ ∧ h_ = h0) := by
  refine own_body (plainFor_of_name pn_1) fun p e s m below meth c s₁ hx hby hml hown hnm hlk hrt hZ X0 e0 => ?_
  have N0 := Fr.nil Z.heap.size
  have hW' := hW
  obtain ⟨-, -, -, -, -, -, -, -, S_RUNNING, -, -, -, -, -, -, -, -, -, -, -, -, -, -, -, -, -, -, -, -, -, -⟩ := hW'
  refine own_go (B := s₁.setTop (mkF m 0 #[.val (.int (3 : Int32))] [])) (fun t k => castTop (ef_3 m (3 : Int32)) k) ?_
  refine own_go (B := s₁.setTop (mkF m 1 #[.val (.int (3 : Int32))] [(.int (3 : Int32))])) (fun _ k => XS.iloadN X0.here hx rfl (hb hby d3_0) rfl k) ?_
  refine own_go (B := s₁.setTop (mkF m 8 #[.val (.int (3 : Int32))] [])) (fun _ k => XS.ifYes X0.here hx rfl (pc0 := 1) (pc' := 8) rfl (hb hby d3_1) rfl (by decide) (by decide) (by decide) k) ?_
  refine own_go (B := s₁.setTop (mkF m 9 #[.val (.int (3 : Int32))] [(.int (3 : Int32))])) (fun _ k => XS.iloadN X0.here hx rfl (hb hby d3_8) rfl k) ?_
  refine own_go (B := s₁.setTop (mkF m 10 #[.val (.int (3 : Int32))] [(.int (1 : Int32)), (.int (3 : Int32))])) (fun _ k => XT.iconstV X0.here hx rfl (1 : Int32) (hb hby d3_9) rfl k) ?_
  refine own_go (B := s₁.setTop (mkF m 17 #[.val (.int (3 : Int32))] [])) (fun _ k => XS.icmpYes X0.here hx rfl (pc0 := 10) (pc' := 17) rfl (hb hby d3_10) rfl (by decide) (by decide) (by decide) k) ?_
  refine own_go (B := s₁.setTop (mkF m 18 #[.val (.int (3 : Int32))] [(.int (3 : Int32))])) (fun _ k => XS.iloadN X0.here hx rfl (hb hby d3_17) rfl k) ?_
  refine own_go (B := s₁.setTop (mkF m 19 #[.val (.int (3 : Int32))] [(.int (2 : Int32)), (.int (3 : Int32))])) (fun _ k => XT.iconstV X0.here hx rfl (2 : Int32) (hb hby d3_18) rfl k) ?_
  refine own_go (B := s₁.setTop (mkF m 26 #[.val (.int (3 : Int32))] [])) (fun _ k => XS.icmpYes X0.here hx rfl (pc0 := 19) (pc' := 26) rfl (hb hby d3_19) rfl (by decide) (by decide) (by decide) k) ?_
  refine own_go (B := s₁.setTop (mkF m 27 #[.val (.int (3 : Int32))] [(.int (3 : Int32))])) (fun _ k => XS.iloadN X0.here hx rfl (hb hby d3_26) rfl k) ?_
  refine own_go (B := s₁.setTop (mkF m 28 #[.val (.int (3 : Int32))] [(.int (3 : Int32)), (.int (3 : Int32))])) (fun _ k => XT.iconstV X0.here hx rfl (3 : Int32) (hb hby d3_27) rfl k) ?_
  refine own_go (B := s₁.setTop (mkF m 31 #[.val (.int (3 : Int32))] [])) (fun _ k => XS.icmpNo X0.here hx rfl (hb hby d3_28) rfl (by decide) k) ?_
  obtain ⟨T1, X1, e1, st1⟩ := getS2 X0 hx hZ hown (host := "") (Or.inl (hw _ (List.mem_of_getElem? (i := 41) rfl))) Via.refl e0 (S_RUNNING.ext x0) (g := (mkF m 31 #[.val (.int (3 : Int32))] [])) rfl (hb hby d3_31)
  refine own_go (B := T1.setTop (mkF m 34 #[.val (.int (3 : Int32))] [(.ref (A 4))])) st1 ?_
  exact own_ret X1 hx (t := (.object "com/example/quorumhand/quorumhand/engine/BrokerState")) hrt rfl (Or.inr (Or.inr (Or.inr (Or.inr ⟨rfl, rfl, rfl⟩)))) (hb hby d3_34) hlk ⟨rfl, N0, e1⟩ (by decide) (by decide)
set_option maxRecDepth 65536 in
set_option maxHeartbeats 40000000 in
theorem rm4_3 (l : Launch) (Z : State) (a0 : Array Value) (hw : ∀ d ∈ tables_1, d.before a0 Z = true) (ws : List Jvm.Cond)  (A : Nat → Addr) (hW : own_W Z A) (h0 : Heap) (x0 : Ext Z.heap h0)  :
    own_Met l Z (⟨"com/example/quorumhand/quorumhand/engine/BrokerState", "value", "()I"⟩ : MethodName) prog_4_method_4_code 1 (some .int) ws ({ frames := 0, cells := 0, slots := 0, locals := 0 } : Room) #[(.ref (A 4))] h0 (fun v_ h_ L_ => v_ = some (.int (3 : Int32)) ∧ Fr Z.heap.size L_ ∧ h_ = h0) := by
  refine own_body (plainFor_of_name pn_0) fun p e s m below meth c s₁ hx hby hml hown hnm hlk hrt hZ X0 e0 => ?_
  have N0 := Fr.nil Z.heap.size
  have hW' := hW
  obtain ⟨-, -, -, -, -, -, -, -, -, -, -, -, -, -, -, -, -, -, -, -, -, -, F_RUNNING_value, -, -, -, -, -, -, -, -⟩ := hW'
  refine own_go (B := s₁.setTop (mkF m 0 #[.val (.ref (A 4))] [])) (fun t k => castTop (ef_4 m (A 4)) k) ?_
  refine own_go (B := s₁.setTop (mkF m 1 #[.val (.ref (A 4))] [(.ref (A 4))])) (fun _ k => XS.aloadN X0.here hx rfl (hb hby d4_0) rfl rfl k) ?_
  obtain ⟨T1, X1, e1, st1⟩ := getF X0 hx hZ hown (host := "") (Or.inl (hw _ (List.mem_of_getElem? (i := 26) rfl))) Via.refl e0 (F_RUNNING_value.ext x0) (g := (mkF m 1 #[.val (.ref (A 4))] [(.ref (A 4))])) rfl rfl (hb hby d4_1)
  refine own_go (B := T1.setTop (mkF m 4 #[.val (.ref (A 4))] [(.int (3 : Int32))])) st1 ?_
  exact own_ret X1 hx (t := .int) hrt rfl (Or.inl ⟨rfl, by simp, _, rfl⟩) (hb hby d4_4) hlk ⟨rfl, N0, e1⟩ (by decide) (by decide)
set_option maxRecDepth 65536 in
set_option maxHeartbeats 40000000 in
theorem rm3_4 (l : Launch) (Z : State) (a0 : Array Value) (hw : ∀ d ∈ tables_1, d.before a0 Z = true) (ws : List Jvm.Cond)  (A : Nat → Addr) (hW : own_W Z A) (h0 : Heap) (x0 : Ext Z.heap h0)  :
    own_Met l Z (⟨"com/example/quorumhand/quorumhand/engine/BrokerStateOfPinLaw", "expected", "(I)Lcom/example/quorumhand/quorumhand/engine/BrokerState;"⟩ : MethodName) method_2_code 1 (some (.object "com/example/quorumhand/quorumhand/engine/BrokerState")) ws ({ frames := 0, cells := 0, slots := 0, locals := 0 } : Room) #[(.int (6 : Int32))] h0 (fun v_ h_ L_ => v_ = some (.ref (A 5)) ∧ Fr Z.heap.size L_ ∧ h_ = h0) := by
  refine own_body (plainFor_of_name pn_1) fun p e s m below meth c s₁ hx hby hml hown hnm hlk hrt hZ X0 e0 => ?_
  have N0 := Fr.nil Z.heap.size
  have hW' := hW
  obtain ⟨-, -, -, -, -, -, -, -, -, -, S_PENDING_CONTROLLED_SHUTDOWN, -, -, -, -, -, -, -, -, -, -, -, -, -, -, -, -, -, -, -, -⟩ := hW'
  refine own_go (B := s₁.setTop (mkF m 0 #[.val (.int (6 : Int32))] [])) (fun t k => castTop (ef_3 m (6 : Int32)) k) ?_
  refine own_go (B := s₁.setTop (mkF m 1 #[.val (.int (6 : Int32))] [(.int (6 : Int32))])) (fun _ k => XS.iloadN X0.here hx rfl (hb hby d3_0) rfl k) ?_
  refine own_go (B := s₁.setTop (mkF m 8 #[.val (.int (6 : Int32))] [])) (fun _ k => XS.ifYes X0.here hx rfl (pc0 := 1) (pc' := 8) rfl (hb hby d3_1) rfl (by decide) (by decide) (by decide) k) ?_
  refine own_go (B := s₁.setTop (mkF m 9 #[.val (.int (6 : Int32))] [(.int (6 : Int32))])) (fun _ k => XS.iloadN X0.here hx rfl (hb hby d3_8) rfl k) ?_
  refine own_go (B := s₁.setTop (mkF m 10 #[.val (.int (6 : Int32))] [(.int (1 : Int32)), (.int (6 : Int32))])) (fun _ k => XT.iconstV X0.here hx rfl (1 : Int32) (hb hby d3_9) rfl k) ?_
  refine own_go (B := s₁.setTop (mkF m 17 #[.val (.int (6 : Int32))] [])) (fun _ k => XS.icmpYes X0.here hx rfl (pc0 := 10) (pc' := 17) rfl (hb hby d3_10) rfl (by decide) (by decide) (by decide) k) ?_
  refine own_go (B := s₁.setTop (mkF m 18 #[.val (.int (6 : Int32))] [(.int (6 : Int32))])) (fun _ k => XS.iloadN X0.here hx rfl (hb hby d3_17) rfl k) ?_
  refine own_go (B := s₁.setTop (mkF m 19 #[.val (.int (6 : Int32))] [(.int (2 : Int32)), (.int (6 : Int32))])) (fun _ k => XT.iconstV X0.here hx rfl (2 : Int32) (hb hby d3_18) rfl k) ?_
  refine own_go (B := s₁.setTop (mkF m 26 #[.val (.int (6 : Int32))] [])) (fun _ k => XS.icmpYes X0.here hx rfl (pc0 := 19) (pc' := 26) rfl (hb hby d3_19) rfl (by decide) (by decide) (by decide) k) ?_
  refine own_go (B := s₁.setTop (mkF m 27 #[.val (.int (6 : Int32))] [(.int (6 : Int32))])) (fun _ k => XS.iloadN X0.here hx rfl (hb hby d3_26) rfl k) ?_
  refine own_go (B := s₁.setTop (mkF m 28 #[.val (.int (6 : Int32))] [(.int (3 : Int32)), (.int (6 : Int32))])) (fun _ k => XT.iconstV X0.here hx rfl (3 : Int32) (hb hby d3_27) rfl k) ?_
  refine own_go (B := s₁.setTop (mkF m 35 #[.val (.int (6 : Int32))] [])) (fun _ k => XS.icmpYes X0.here hx rfl (pc0 := 28) (pc' := 35) rfl (hb hby d3_28) rfl (by decide) (by decide) (by decide) k) ?_
  refine own_go (B := s₁.setTop (mkF m 36 #[.val (.int (6 : Int32))] [(.int (6 : Int32))])) (fun _ k => XS.iloadN X0.here hx rfl (hb hby d3_35) rfl k) ?_
  refine own_go (B := s₁.setTop (mkF m 38 #[.val (.int (6 : Int32))] [(.int (6 : Int32)), (.int (6 : Int32))])) (fun _ k => XT.bipushV X0.here hx rfl (6 : Int32) (hb hby d3_36) (by decide) k) ?_
  refine own_go (B := s₁.setTop (mkF m 41 #[.val (.int (6 : Int32))] [])) (fun _ k => XS.icmpNo X0.here hx rfl (hb hby d3_38) rfl (by decide) k) ?_
  obtain ⟨T1, X1, e1, st1⟩ := getS2 X0 hx hZ hown (host := "") (Or.inl (hw _ (List.mem_of_getElem? (i := 40) rfl))) Via.refl e0 (S_PENDING_CONTROLLED_SHUTDOWN.ext x0) (g := (mkF m 41 #[.val (.int (6 : Int32))] [])) rfl (hb hby d3_41)
  refine own_go (B := T1.setTop (mkF m 44 #[.val (.int (6 : Int32))] [(.ref (A 5))])) st1 ?_
  exact own_ret X1 hx (t := (.object "com/example/quorumhand/quorumhand/engine/BrokerState")) hrt rfl (Or.inr (Or.inr (Or.inr (Or.inr ⟨rfl, rfl, rfl⟩)))) (hb hby d3_44) hlk ⟨rfl, N0, e1⟩ (by decide) (by decide)
set_option maxRecDepth 65536 in
set_option maxHeartbeats 40000000 in
theorem rm4_4 (l : Launch) (Z : State) (a0 : Array Value) (hw : ∀ d ∈ tables_1, d.before a0 Z = true) (ws : List Jvm.Cond)  (A : Nat → Addr) (hW : own_W Z A) (h0 : Heap) (x0 : Ext Z.heap h0)  :
    own_Met l Z (⟨"com/example/quorumhand/quorumhand/engine/BrokerState", "value", "()I"⟩ : MethodName) prog_4_method_4_code 1 (some .int) ws ({ frames := 0, cells := 0, slots := 0, locals := 0 } : Room) #[(.ref (A 5))] h0 (fun v_ h_ L_ => v_ = some (.int (6 : Int32)) ∧ Fr Z.heap.size L_ ∧ h_ = h0) := by
  refine own_body (plainFor_of_name pn_0) fun p e s m below meth c s₁ hx hby hml hown hnm hlk hrt hZ X0 e0 => ?_
  have N0 := Fr.nil Z.heap.size
  have hW' := hW
  obtain ⟨-, -, -, -, -, -, -, -, -, -, -, -, -, -, -, -, -, -, -, -, -, -, -, F_PENDING_CONTROLLED_SHUTDOWN_value, -, -, -, -, -, -, -⟩ := hW'
  refine own_go (B := s₁.setTop (mkF m 0 #[.val (.ref (A 5))] [])) (fun t k => castTop (ef_4 m (A 5)) k) ?_
  refine own_go (B := s₁.setTop (mkF m 1 #[.val (.ref (A 5))] [(.ref (A 5))])) (fun _ k => XS.aloadN X0.here hx rfl (hb hby d4_0) rfl rfl k) ?_
  obtain ⟨T1, X1, e1, st1⟩ := getF X0 hx hZ hown (host := "") (Or.inl (hw _ (List.mem_of_getElem? (i := 26) rfl))) Via.refl e0 (F_PENDING_CONTROLLED_SHUTDOWN_value.ext x0) (g := (mkF m 1 #[.val (.ref (A 5))] [(.ref (A 5))])) rfl rfl (hb hby d4_1)
  refine own_go (B := T1.setTop (mkF m 4 #[.val (.ref (A 5))] [(.int (6 : Int32))])) st1 ?_
  exact own_ret X1 hx (t := .int) hrt rfl (Or.inl ⟨rfl, by simp, _, rfl⟩) (hb hby d4_4) hlk ⟨rfl, N0, e1⟩ (by decide) (by decide)
set_option maxRecDepth 65536 in
set_option maxHeartbeats 40000000 in
theorem rm3_5 (l : Launch) (Z : State) (a0 : Array Value) (hw : ∀ d ∈ tables_1, d.before a0 Z = true) (ws : List Jvm.Cond)  (A : Nat → Addr) (hW : own_W Z A) (h0 : Heap) (x0 : Ext Z.heap h0)  :
    own_Met l Z (⟨"com/example/quorumhand/quorumhand/engine/BrokerStateOfPinLaw", "expected", "(I)Lcom/example/quorumhand/quorumhand/engine/BrokerState;"⟩ : MethodName) method_2_code 1 (some (.object "com/example/quorumhand/quorumhand/engine/BrokerState")) ws ({ frames := 0, cells := 0, slots := 0, locals := 0 } : Room) #[(.int (7 : Int32))] h0 (fun v_ h_ L_ => v_ = some (.ref (A 6)) ∧ Fr Z.heap.size L_ ∧ h_ = h0) := by
  refine own_body (plainFor_of_name pn_1) fun p e s m below meth c s₁ hx hby hml hown hnm hlk hrt hZ X0 e0 => ?_
  have N0 := Fr.nil Z.heap.size
  have hW' := hW
  obtain ⟨-, -, -, -, -, -, -, -, -, -, -, -, S_SHUTTING_DOWN, -, -, -, -, -, -, -, -, -, -, -, -, -, -, -, -, -, -⟩ := hW'
  refine own_go (B := s₁.setTop (mkF m 0 #[.val (.int (7 : Int32))] [])) (fun t k => castTop (ef_3 m (7 : Int32)) k) ?_
  refine own_go (B := s₁.setTop (mkF m 1 #[.val (.int (7 : Int32))] [(.int (7 : Int32))])) (fun _ k => XS.iloadN X0.here hx rfl (hb hby d3_0) rfl k) ?_
  refine own_go (B := s₁.setTop (mkF m 8 #[.val (.int (7 : Int32))] [])) (fun _ k => XS.ifYes X0.here hx rfl (pc0 := 1) (pc' := 8) rfl (hb hby d3_1) rfl (by decide) (by decide) (by decide) k) ?_
  refine own_go (B := s₁.setTop (mkF m 9 #[.val (.int (7 : Int32))] [(.int (7 : Int32))])) (fun _ k => XS.iloadN X0.here hx rfl (hb hby d3_8) rfl k) ?_
  refine own_go (B := s₁.setTop (mkF m 10 #[.val (.int (7 : Int32))] [(.int (1 : Int32)), (.int (7 : Int32))])) (fun _ k => XT.iconstV X0.here hx rfl (1 : Int32) (hb hby d3_9) rfl k) ?_
  refine own_go (B := s₁.setTop (mkF m 17 #[.val (.int (7 : Int32))] [])) (fun _ k => XS.icmpYes X0.here hx rfl (pc0 := 10) (pc' := 17) rfl (hb hby d3_10) rfl (by decide) (by decide) (by decide) k) ?_
  refine own_go (B := s₁.setTop (mkF m 18 #[.val (.int (7 : Int32))] [(.int (7 : Int32))])) (fun _ k => XS.iloadN X0.here hx rfl (hb hby d3_17) rfl k) ?_
  refine own_go (B := s₁.setTop (mkF m 19 #[.val (.int (7 : Int32))] [(.int (2 : Int32)), (.int (7 : Int32))])) (fun _ k => XT.iconstV X0.here hx rfl (2 : Int32) (hb hby d3_18) rfl k) ?_
  refine own_go (B := s₁.setTop (mkF m 26 #[.val (.int (7 : Int32))] [])) (fun _ k => XS.icmpYes X0.here hx rfl (pc0 := 19) (pc' := 26) rfl (hb hby d3_19) rfl (by decide) (by decide) (by decide) k) ?_
  refine own_go (B := s₁.setTop (mkF m 27 #[.val (.int (7 : Int32))] [(.int (7 : Int32))])) (fun _ k => XS.iloadN X0.here hx rfl (hb hby d3_26) rfl k) ?_
  refine own_go (B := s₁.setTop (mkF m 28 #[.val (.int (7 : Int32))] [(.int (3 : Int32)), (.int (7 : Int32))])) (fun _ k => XT.iconstV X0.here hx rfl (3 : Int32) (hb hby d3_27) rfl k) ?_
  refine own_go (B := s₁.setTop (mkF m 35 #[.val (.int (7 : Int32))] [])) (fun _ k => XS.icmpYes X0.here hx rfl (pc0 := 28) (pc' := 35) rfl (hb hby d3_28) rfl (by decide) (by decide) (by decide) k) ?_
  refine own_go (B := s₁.setTop (mkF m 36 #[.val (.int (7 : Int32))] [(.int (7 : Int32))])) (fun _ k => XS.iloadN X0.here hx rfl (hb hby d3_35) rfl k) ?_
  refine own_go (B := s₁.setTop (mkF m 38 #[.val (.int (7 : Int32))] [(.int (6 : Int32)), (.int (7 : Int32))])) (fun _ k => XT.bipushV X0.here hx rfl (6 : Int32) (hb hby d3_36) (by decide) k) ?_
  refine own_go (B := s₁.setTop (mkF m 45 #[.val (.int (7 : Int32))] [])) (fun _ k => XS.icmpYes X0.here hx rfl (pc0 := 38) (pc' := 45) rfl (hb hby d3_38) rfl (by decide) (by decide) (by decide) k) ?_
  refine own_go (B := s₁.setTop (mkF m 46 #[.val (.int (7 : Int32))] [(.int (7 : Int32))])) (fun _ k => XS.iloadN X0.here hx rfl (hb hby d3_45) rfl k) ?_
  refine own_go (B := s₁.setTop (mkF m 48 #[.val (.int (7 : Int32))] [(.int (7 : Int32)), (.int (7 : Int32))])) (fun _ k => XT.bipushV X0.here hx rfl (7 : Int32) (hb hby d3_46) (by decide) k) ?_
  refine own_go (B := s₁.setTop (mkF m 51 #[.val (.int (7 : Int32))] [])) (fun _ k => XS.icmpNo X0.here hx rfl (hb hby d3_48) rfl (by decide) k) ?_
  obtain ⟨T1, X1, e1, st1⟩ := getS2 X0 hx hZ hown (host := "") (Or.inl (hw _ (List.mem_of_getElem? (i := 44) rfl))) Via.refl e0 (S_SHUTTING_DOWN.ext x0) (g := (mkF m 51 #[.val (.int (7 : Int32))] [])) rfl (hb hby d3_51)
  refine own_go (B := T1.setTop (mkF m 54 #[.val (.int (7 : Int32))] [(.ref (A 6))])) st1 ?_
  exact own_ret X1 hx (t := (.object "com/example/quorumhand/quorumhand/engine/BrokerState")) hrt rfl (Or.inr (Or.inr (Or.inr (Or.inr ⟨rfl, rfl, rfl⟩)))) (hb hby d3_54) hlk ⟨rfl, N0, e1⟩ (by decide) (by decide)
set_option maxRecDepth 65536 in
set_option maxHeartbeats 40000000 in
theorem rm4_5 (l : Launch) (Z : State) (a0 : Array Value) (hw : ∀ d ∈ tables_1, d.before a0 Z = true) (ws : List Jvm.Cond)  (A : Nat → Addr) (hW : own_W Z A) (h0 : Heap) (x0 : Ext Z.heap h0)  :
    own_Met l Z (⟨"com/example/quorumhand/quorumhand/engine/BrokerState", "value", "()I"⟩ : MethodName) prog_4_method_4_code 1 (some .int) ws ({ frames := 0, cells := 0, slots := 0, locals := 0 } : Room) #[(.ref (A 6))] h0 (fun v_ h_ L_ => v_ = some (.int (7 : Int32)) ∧ Fr Z.heap.size L_ ∧ h_ = h0) := by
  refine own_body (plainFor_of_name pn_0) fun p e s m below meth c s₁ hx hby hml hown hnm hlk hrt hZ X0 e0 => ?_
  have N0 := Fr.nil Z.heap.size
  have hW' := hW
  obtain ⟨-, -, -, -, -, -, -, -, -, -, -, -, -, -, -, -, -, -, -, -, -, -, -, -, F_SHUTTING_DOWN_value, -, -, -, -, -, -⟩ := hW'
  refine own_go (B := s₁.setTop (mkF m 0 #[.val (.ref (A 6))] [])) (fun t k => castTop (ef_4 m (A 6)) k) ?_
  refine own_go (B := s₁.setTop (mkF m 1 #[.val (.ref (A 6))] [(.ref (A 6))])) (fun _ k => XS.aloadN X0.here hx rfl (hb hby d4_0) rfl rfl k) ?_
  obtain ⟨T1, X1, e1, st1⟩ := getF X0 hx hZ hown (host := "") (Or.inl (hw _ (List.mem_of_getElem? (i := 26) rfl))) Via.refl e0 (F_SHUTTING_DOWN_value.ext x0) (g := (mkF m 1 #[.val (.ref (A 6))] [(.ref (A 6))])) rfl rfl (hb hby d4_1)
  refine own_go (B := T1.setTop (mkF m 4 #[.val (.ref (A 6))] [(.int (7 : Int32))])) st1 ?_
  exact own_ret X1 hx (t := .int) hrt rfl (Or.inl ⟨rfl, by simp, _, rfl⟩) (hb hby d4_4) hlk ⟨rfl, N0, e1⟩ (by decide) (by decide)
set_option maxRecDepth 65536 in
set_option maxHeartbeats 40000000 in
theorem rm3_6 (l : Launch) (Z : State) (a0 : Array Value) (hw : ∀ d ∈ tables_1, d.before a0 Z = true) (ws : List Jvm.Cond) (v : Int32) (A : Nat → Addr) (hW : own_W Z A) (h0 : Heap) (x0 : Ext Z.heap h0) (kq1 : ¬ v = (0 : Int32)) (kq10 : ¬ v = (1 : Int32)) (kq19 : ¬ v = (2 : Int32)) (kq28 : ¬ v = (3 : Int32)) (kq38 : ¬ v = (6 : Int32)) (kq48 : ¬ v = (7 : Int32)) :
    own_Met l Z (⟨"com/example/quorumhand/quorumhand/engine/BrokerStateOfPinLaw", "expected", "(I)Lcom/example/quorumhand/quorumhand/engine/BrokerState;"⟩ : MethodName) method_2_code 1 (some (.object "com/example/quorumhand/quorumhand/engine/BrokerState")) ws ({ frames := 0, cells := 0, slots := 0, locals := 0 } : Room) #[(.int v)] h0 (fun v_ h_ L_ => v_ = some (.ref (A 7)) ∧ Fr Z.heap.size L_ ∧ h_ = h0) := by
  refine own_body (plainFor_of_name pn_1) fun p e s m below meth c s₁ hx hby hml hown hnm hlk hrt hZ X0 e0 => ?_
  have N0 := Fr.nil Z.heap.size
  have hW' := hW
  obtain ⟨-, -, -, -, -, -, -, -, -, -, -, -, -, -, S_UNKNOWN, -, -, -, -, -, -, -, -, -, -, -, -, -, -, -, -⟩ := hW'
  refine own_go (B := s₁.setTop (mkF m 0 #[.val (.int v)] [])) (fun t k => castTop (ef_3 m v) k) ?_
  refine own_go (B := s₁.setTop (mkF m 1 #[.val (.int v)] [(.int v)])) (fun _ k => XS.iloadN X0.here hx rfl (hb hby d3_0) rfl k) ?_
  refine own_go (B := s₁.setTop (mkF m 8 #[.val (.int v)] [])) (fun _ k => XS.ifYes X0.here hx rfl (pc0 := 1) (pc' := 8) rfl (hb hby d3_1) rfl ((if0 _ _).trans (feq kq1).2) (by decide) (by decide) k) ?_
  refine own_go (B := s₁.setTop (mkF m 9 #[.val (.int v)] [(.int v)])) (fun _ k => XS.iloadN X0.here hx rfl (hb hby d3_8) rfl k) ?_
  refine own_go (B := s₁.setTop (mkF m 10 #[.val (.int v)] [(.int (1 : Int32)), (.int v)])) (fun _ k => XT.iconstV X0.here hx rfl (1 : Int32) (hb hby d3_9) rfl k) ?_
  refine own_go (B := s₁.setTop (mkF m 17 #[.val (.int v)] [])) (fun _ k => XS.icmpYes X0.here hx rfl (pc0 := 10) (pc' := 17) rfl (hb hby d3_10) rfl (feq kq10).2 (by decide) (by decide) k) ?_
  refine own_go (B := s₁.setTop (mkF m 18 #[.val (.int v)] [(.int v)])) (fun _ k => XS.iloadN X0.here hx rfl (hb hby d3_17) rfl k) ?_
  refine own_go (B := s₁.setTop (mkF m 19 #[.val (.int v)] [(.int (2 : Int32)), (.int v)])) (fun _ k => XT.iconstV X0.here hx rfl (2 : Int32) (hb hby d3_18) rfl k) ?_
  refine own_go (B := s₁.setTop (mkF m 26 #[.val (.int v)] [])) (fun _ k => XS.icmpYes X0.here hx rfl (pc0 := 19) (pc' := 26) rfl (hb hby d3_19) rfl (feq kq19).2 (by decide) (by decide) k) ?_
  refine own_go (B := s₁.setTop (mkF m 27 #[.val (.int v)] [(.int v)])) (fun _ k => XS.iloadN X0.here hx rfl (hb hby d3_26) rfl k) ?_
  refine own_go (B := s₁.setTop (mkF m 28 #[.val (.int v)] [(.int (3 : Int32)), (.int v)])) (fun _ k => XT.iconstV X0.here hx rfl (3 : Int32) (hb hby d3_27) rfl k) ?_
  refine own_go (B := s₁.setTop (mkF m 35 #[.val (.int v)] [])) (fun _ k => XS.icmpYes X0.here hx rfl (pc0 := 28) (pc' := 35) rfl (hb hby d3_28) rfl (feq kq28).2 (by decide) (by decide) k) ?_
  refine own_go (B := s₁.setTop (mkF m 36 #[.val (.int v)] [(.int v)])) (fun _ k => XS.iloadN X0.here hx rfl (hb hby d3_35) rfl k) ?_
  refine own_go (B := s₁.setTop (mkF m 38 #[.val (.int v)] [(.int (6 : Int32)), (.int v)])) (fun _ k => XT.bipushV X0.here hx rfl (6 : Int32) (hb hby d3_36) (by decide) k) ?_
  refine own_go (B := s₁.setTop (mkF m 45 #[.val (.int v)] [])) (fun _ k => XS.icmpYes X0.here hx rfl (pc0 := 38) (pc' := 45) rfl (hb hby d3_38) rfl (feq kq38).2 (by decide) (by decide) k) ?_
  refine own_go (B := s₁.setTop (mkF m 46 #[.val (.int v)] [(.int v)])) (fun _ k => XS.iloadN X0.here hx rfl (hb hby d3_45) rfl k) ?_
  refine own_go (B := s₁.setTop (mkF m 48 #[.val (.int v)] [(.int (7 : Int32)), (.int v)])) (fun _ k => XT.bipushV X0.here hx rfl (7 : Int32) (hb hby d3_46) (by decide) k) ?_
  refine own_go (B := s₁.setTop (mkF m 55 #[.val (.int v)] [])) (fun _ k => XS.icmpYes X0.here hx rfl (pc0 := 48) (pc' := 55) rfl (hb hby d3_48) rfl (feq kq48).2 (by decide) (by decide) k) ?_
  obtain ⟨T1, X1, e1, st1⟩ := getS2 X0 hx hZ hown (host := "") (Or.inl (hw _ (List.mem_of_getElem? (i := 33) rfl))) Via.refl e0 (S_UNKNOWN.ext x0) (g := (mkF m 55 #[.val (.int v)] [])) rfl (hb hby d3_55)
  refine own_go (B := T1.setTop (mkF m 58 #[.val (.int v)] [(.ref (A 7))])) st1 ?_
  exact own_ret X1 hx (t := (.object "com/example/quorumhand/quorumhand/engine/BrokerState")) hrt rfl (Or.inr (Or.inr (Or.inr (Or.inr ⟨rfl, rfl, rfl⟩)))) (hb hby d3_58) hlk ⟨rfl, N0, e1⟩ (by decide) (by decide)
set_option maxRecDepth 65536 in
set_option maxHeartbeats 40000000 in
theorem rm0 (l : Launch) (Z : State) (a0 : Array Value) (hw : ∀ d ∈ tables_1, d.before a0 Z = true) (ws : List Jvm.Cond) (p0 p1 : Int32) (A : Nat → Addr) (hW : own_W Z A) (h0 : Heap) (x0 : Ext Z.heap h0)  :
    own_Met l Z x code maxLocals ret ws room_1 #[(.int p0), (.int p1)] h0 (fun v_ h_ L_ => v_ = some (.int (1 : Int32)) ∧ Fr Z.heap.size L_) := by
  refine own_body (plainFor_of_name pn_1) fun p e s m below meth c s₁ hx hby hml hown hnm hlk hrt hZ X0 e0 => ?_
  have N0 := Fr.nil Z.heap.size
  have hW' := hW
  obtain ⟨-, -, -, E_NOT_RUNNING, -, E_STARTING, -, E_RECOVERY, -, E_RUNNING, -, E_PENDING_CONTROLLED_SHUTDOWN, -, E_SHUTTING_DOWN, S_UNKNOWN, -, -, F_NOT_RUNNING_value, -, -, F_STARTING_value, F_RECOVERY_value, F_RUNNING_value, F_PENDING_CONTROLLED_SHUTDOWN_value, F_SHUTTING_DOWN_value, F_UNKNOWN_value, -, -, -, -, -⟩ := hW'
  refine own_go (B := s₁.setTop (mkF m 0 #[.val (.int p0), .val (.int p1), .unset, .unset] [])) (fun t k => castTop (ef_2 m p0 p1) k) ?_
  have tail : ∀ v : Int32, own_G p.tables e below s (fun v_ h_ L_ => v_ = some (.int (1 : Int32)) ∧ Fr Z.heap.size L_) room_1.cells room_1.slots (s₁.setTop (mkF m 17 #[.val (.int p0), .val (.int p1), .val (.int v), .unset] [])) := by
    intro v
    rcases own_v v with rfl | rfl | rfl | rfl | rfl | rfl | ⟨n0, n1, n2, n3, n6, n7⟩
    · refine own_go (B := s₁.setTop (mkF m 18 #[.val (.int p0), .val (.int p1), .val (.int (0 : Int32)), .unset] [(.int (0 : Int32))])) (fun _ k => XS.iloadN X0.here hx rfl (hb hby at_17) rfl k) ?_
      obtain ⟨_, _, ⟨T1, L1, k1, n1⟩, -, X1, ⟨Lc1, hQ1, l1, y1, z1⟩, st1⟩ := Jvm.LawKit.callS X0 hx (y := (⟨"com/example/quorumhand/quorumhand/engine/BrokerState", "of", "(I)Lcom/example/quorumhand/quorumhand/engine/BrokerState;"⟩ : MethodName)) hown (mvT hZ (hw _ (List.mem_of_getElem? (i := 0) rfl))) (mvT hZ (hw _ (List.mem_of_getElem? (i := 1) rfl))) (mvT hZ (hw _ (List.mem_of_getElem? (i := 2) rfl))) (mvT hZ (hw _ (List.mem_of_getElem? (i := 3) rfl))) (by decide) (own_back (W := 0) (rmO0 l Z a0 hw []  A hW h0 x0 ) hZ (hw _ (List.mem_of_getElem? (i := 3) rfl)) (hw _ (List.mem_of_getElem? (i := 2) rfl)) (by decide) (by decide)) (g := (mkF m 18 #[.val (.int p0), .val (.int p1), .val (.int (0 : Int32)), .unset] [(.int (0 : Int32))])) rfl (by rw [hml]; rfl) (argsL := [(.int (0 : Int32))]) (rest := []) (lenOf pd_1 rfl) rfl (by show 2 * 0 + _ ≤ _; exact Nat.le_of_eq rfl) (hb hby at_18) (fun _ _ => ⟨rfl, e0, (by decide : 0 + 1 ≤ _), (by decide : 0 + 7 ≤ _)⟩)
      dsimp only [Pt.U, Pt.locs, Pt.cells, Pt.slots] at X1 l1 y1 z1 st1 hQ1
      subst l1 y1 z1
      obtain ⟨rfl, N1q, E1⟩ := hQ1
      have N1 := Fr.app N0 N1q
      have x1 : Ext Z.heap T1.heap := own_xt x0 E1
      refine own_go (B := T1.setTop (mkF m 21 #[.val (.int p0), .val (.int p1), .val (.int (0 : Int32)), .unset] [(.ref (A 1))])) st1 ?_
      refine own_go (B := T1.setTop (mkF m 22 #[.val (.int p0), .val (.int p1), .val (.int (0 : Int32)), .val (.ref (A 1))] [])) (fun _ k => XS.astoreN X1.here hx rfl (hb hby at_21) rfl rfl (l' := #[.val (.int p0), .val (.int p1), .val (.int (0 : Int32)), .val (.ref (A 1))]) rfl k) ?_
      refine own_go (B := T1.setTop (mkF m 23 #[.val (.int p0), .val (.int p1), .val (.int (0 : Int32)), .val (.ref (A 1))] [(.ref (A 1))])) (fun _ k => XS.aloadN X1.here hx rfl (hb hby at_22) rfl rfl k) ?_
      refine own_go (B := T1.setTop (mkF m 28 #[.val (.int p0), .val (.int p1), .val (.int (0 : Int32)), .val (.ref (A 1))] [])) (fun _ k => XT.ifnonnullYes X1.here hx rfl (pc0 := 23) (pc' := 28) rfl (hb hby at_23) rfl (by decide) (by decide) k) ?_
      refine own_go (B := T1.setTop (mkF m 29 #[.val (.int p0), .val (.int p1), .val (.int (0 : Int32)), .val (.ref (A 1))] [(.ref (A 1))])) (fun _ k => XS.aloadN X1.here hx rfl (hb hby at_28) rfl rfl k) ?_
      refine own_go (B := T1.setTop (mkF m 30 #[.val (.int p0), .val (.int p1), .val (.int (0 : Int32)), .val (.ref (A 1))] [(.int (0 : Int32)), (.ref (A 1))])) (fun _ k => XS.iloadN X1.here hx rfl (hb hby at_29) rfl k) ?_
      obtain ⟨_, _, ⟨T2, L2, k2, n2⟩, -, X2, ⟨Lc2, hQ2, l2, y2, z2⟩, st2⟩ := Jvm.LawKit.callS X1 hx (y := (⟨"com/example/quorumhand/quorumhand/engine/BrokerStateOfPinLaw", "expected", "(I)Lcom/example/quorumhand/quorumhand/engine/BrokerState;"⟩ : MethodName)) hown (mvT hZ (hw _ (List.mem_of_getElem? (i := 28) rfl))) (mvT hZ (hw _ (List.mem_of_getElem? (i := 29) rfl))) (mvT hZ (hw _ (List.mem_of_getElem? (i := 30) rfl))) (mvT hZ (hw _ (List.mem_of_getElem? (i := 31) rfl))) (by decide) (own_back (W := 1) (rm3_0 l Z a0 hw []  A hW T1.heap x1 ) hZ (hw _ (List.mem_of_getElem? (i := 31) rfl)) (hw _ (List.mem_of_getElem? (i := 30) rfl)) (by decide) (by decide)) (g := (mkF m 30 #[.val (.int p0), .val (.int p1), .val (.int (0 : Int32)), .val (.ref (A 1))] [(.int (0 : Int32)), (.ref (A 1))])) rfl (by rw [hml]; rfl) (argsL := [(.int (0 : Int32))]) (rest := [(.ref (A 1))]) (lenOf pd_1 rfl) rfl (by show 2 * 0 + _ ≤ _; exact Nat.le_of_eq rfl) (hb hby at_30) (fun _ _ => ⟨rfl, rfl, (by decide : 1 + 0 ≤ _), (by decide : 7 + 0 ≤ _)⟩)
      dsimp only [Pt.U, Pt.locs, Pt.cells, Pt.slots] at X2 l2 y2 z2 st2 hQ2
      subst l2 y2 z2
      obtain ⟨rfl, N2q, e2⟩ := hQ2
      have N2 := Fr.app N1 N2q
      refine own_go (B := T2.setTop (mkF m 33 #[.val (.int p0), .val (.int p1), .val (.int (0 : Int32)), .val (.ref (A 1))] [(.ref (A 1)), (.ref (A 1))])) st2 ?_
      refine own_go (B := T2.setTop (mkF m 38 #[.val (.int p0), .val (.int p1), .val (.int (0 : Int32)), .val (.ref (A 1))] [])) (fun _ k => Jvm.RoadKit.acmp (g := (mkF m 33 #[.val (.int p0), .val (.int p1), .val (.int (0 : Int32)), .val (.ref (A 1))] [(.ref (A 1)), (.ref (A 1))])) X2 hx rfl rfl rfl (pc0 := 33) (pc' := 38) (same := true) rfl (hb hby at_33) rfl (decide_eq_true rfl) (by decide) (by decide) k) ?_
      refine own_go (B := T2.setTop (mkF m 39 #[.val (.int p0), .val (.int p1), .val (.int (0 : Int32)), .val (.ref (A 1))] [(.ref (A 1))])) (fun _ k => XS.aloadN X2.here hx rfl (hb hby at_38) rfl rfl k) ?_
      obtain ⟨T3, X3, e3, st3⟩ := getS2 X2 hx hZ hown (host := "") (Or.inl (hw _ (List.mem_of_getElem? (i := 33) rfl))) Via.refl e2 (S_UNKNOWN.ext x1) (g := (mkF m 39 #[.val (.int p0), .val (.int p1), .val (.int (0 : Int32)), .val (.ref (A 1))] [(.ref (A 1))])) rfl (hb hby at_39)
      refine own_go (B := T3.setTop (mkF m 42 #[.val (.int p0), .val (.int p1), .val (.int (0 : Int32)), .val (.ref (A 1))] [(.ref (A 7)), (.ref (A 1))])) st3 ?_
      refine own_go (B := T3.setTop (mkF m 45 #[.val (.int p0), .val (.int p1), .val (.int (0 : Int32)), .val (.ref (A 1))] [])) (fun _ k => Jvm.RoadKit.acmp (g := (mkF m 42 #[.val (.int p0), .val (.int p1), .val (.int (0 : Int32)), .val (.ref (A 1))] [(.ref (A 7)), (.ref (A 1))])) X3 hx rfl rfl rfl (pc0 := 42) (pc' := 45) (same := false) rfl (hb hby at_42) rfl (decide_eq_false fun q => (own_ne F_NOT_RUNNING_value F_UNKNOWN_value (by decide)) (Value.ref.inj q)) (by decide) (by decide) k) ?_
      refine own_go (B := T3.setTop (mkF m 46 #[.val (.int p0), .val (.int p1), .val (.int (0 : Int32)), .val (.ref (A 1))] [(.ref (A 1))])) (fun _ k => XS.aloadN X3.here hx rfl (hb hby at_45) rfl rfl k) ?_
      obtain ⟨cq4, kq4, q4a, q4b, q4c⟩ := isOf hZ e3 (E_NOT_RUNNING.ext x1)
      obtain ⟨_, _, ⟨T4, L4, k4, n4⟩, -, X4, ⟨Lc4, hQ4, l4, y4, z4⟩, st4⟩ := X3.virtualBack hx (y := (⟨"com/example/quorumhand/quorumhand/engine/BrokerState", "value", "()I"⟩ : MethodName)) (z := (⟨"com/example/quorumhand/quorumhand/engine/BrokerState", "value", "()I"⟩ : MethodName)) hown (mvT hZ (hw _ (List.mem_of_getElem? (i := 34) rfl))) (mvT hZ (hw _ (List.mem_of_getElem? (i := 35) rfl))) (notFace_of_selects (args := #[]) (mvT hZ (hw _ (List.mem_of_getElem? (i := 37) rfl)))) (mvT hZ (hw _ (List.mem_of_getElem? (i := 37) rfl))) (mvT hZ (hw _ (List.mem_of_getElem? (i := 36) rfl))) (by decide) (own_back (W := 0) (rm4_0 l Z a0 hw []  A hW T1.heap x1 ) hZ (hw _ (List.mem_of_getElem? (i := 38) rfl)) (hw _ (List.mem_of_getElem? (i := 2) rfl)) (by decide) (by decide)) q4a q4c (g := (mkF m 46 #[.val (.int p0), .val (.int p1), .val (.int (0 : Int32)), .val (.ref (A 1))] [(.ref (A 1))])) rfl (by rw [hml]; rfl) (Steps.refl _) (argsL := []) (rest := []) (lenOf pd_2 rfl) rfl (by show 2 * 0 + _ ≤ _; exact Nat.le_of_eq rfl) (hb hby at_46) (fun _ _ => ⟨rfl, e3, (by decide : 1 + 0 ≤ _), (by decide : 7 + 0 ≤ _)⟩)
      dsimp only [Pt.U, Pt.locs, Pt.cells, Pt.slots] at X4 l4 y4 z4 st4 hQ4
      subst l4 y4 z4
      obtain ⟨rfl, N4q, e4⟩ := hQ4
      have N4 := Fr.app N2 N4q
      refine own_go (B := T4.setTop (mkF m 49 #[.val (.int p0), .val (.int p1), .val (.int (0 : Int32)), .val (.ref (A 1))] [(.int (0 : Int32))])) (fun _ k => st4.trans k) ?_
      refine own_go (B := T4.setTop (mkF m 50 #[.val (.int p0), .val (.int p1), .val (.int (0 : Int32)), .val (.ref (A 1))] [(.int (0 : Int32)), (.int (0 : Int32))])) (fun _ k => XS.iloadN X4.here hx rfl (hb hby at_49) rfl k) ?_
      refine own_go (B := T4.setTop (mkF m 55 #[.val (.int p0), .val (.int p1), .val (.int (0 : Int32)), .val (.ref (A 1))] [])) (fun _ k => XS.icmpYes X4.here hx rfl (pc0 := 50) (pc' := 55) rfl (hb hby at_50) rfl (by decide) (by decide) (by decide) k) ?_
      refine own_go (B := T4.setTop (mkF m 56 #[.val (.int p0), .val (.int p1), .val (.int (0 : Int32)), .val (.ref (A 1))] [(.int (1 : Int32))])) (fun _ k => XT.iconstV X4.here hx rfl (1 : Int32) (hb hby at_55) rfl k) ?_
      exact own_ret X4 hx (t := .boolean) hrt rfl (Or.inl ⟨rfl, by simp, _, rfl⟩) (hb hby at_56) hlk ⟨rfl, N4⟩ (by decide) (by decide)
    · refine own_go (B := s₁.setTop (mkF m 18 #[.val (.int p0), .val (.int p1), .val (.int (1 : Int32)), .unset] [(.int (1 : Int32))])) (fun _ k => XS.iloadN X0.here hx rfl (hb hby at_17) rfl k) ?_
      obtain ⟨_, _, ⟨T5, L5, k5, n5⟩, -, X5, ⟨Lc5, hQ5, l5, y5, z5⟩, st5⟩ := Jvm.LawKit.callS X0 hx (y := (⟨"com/example/quorumhand/quorumhand/engine/BrokerState", "of", "(I)Lcom/example/quorumhand/quorumhand/engine/BrokerState;"⟩ : MethodName)) hown (mvT hZ (hw _ (List.mem_of_getElem? (i := 0) rfl))) (mvT hZ (hw _ (List.mem_of_getElem? (i := 1) rfl))) (mvT hZ (hw _ (List.mem_of_getElem? (i := 2) rfl))) (mvT hZ (hw _ (List.mem_of_getElem? (i := 3) rfl))) (by decide) (own_back (W := 0) (rmO1 l Z a0 hw []  A hW h0 x0 ) hZ (hw _ (List.mem_of_getElem? (i := 3) rfl)) (hw _ (List.mem_of_getElem? (i := 2) rfl)) (by decide) (by decide)) (g := (mkF m 18 #[.val (.int p0), .val (.int p1), .val (.int (1 : Int32)), .unset] [(.int (1 : Int32))])) rfl (by rw [hml]; rfl) (argsL := [(.int (1 : Int32))]) (rest := []) (lenOf pd_1 rfl) rfl (by show 2 * 0 + _ ≤ _; exact Nat.le_of_eq rfl) (hb hby at_18) (fun _ _ => ⟨rfl, e0, (by decide : 0 + 1 ≤ _), (by decide : 0 + 7 ≤ _)⟩)
      dsimp only [Pt.U, Pt.locs, Pt.cells, Pt.slots] at X5 l5 y5 z5 st5 hQ5
      subst l5 y5 z5
      obtain ⟨rfl, N5q, E5⟩ := hQ5
      have N5 := Fr.app N0 N5q
      have x5 : Ext Z.heap T5.heap := own_xt x0 E5
      refine own_go (B := T5.setTop (mkF m 21 #[.val (.int p0), .val (.int p1), .val (.int (1 : Int32)), .unset] [(.ref (A 2))])) st5 ?_
      refine own_go (B := T5.setTop (mkF m 22 #[.val (.int p0), .val (.int p1), .val (.int (1 : Int32)), .val (.ref (A 2))] [])) (fun _ k => XS.astoreN X5.here hx rfl (hb hby at_21) rfl rfl (l' := #[.val (.int p0), .val (.int p1), .val (.int (1 : Int32)), .val (.ref (A 2))]) rfl k) ?_
      refine own_go (B := T5.setTop (mkF m 23 #[.val (.int p0), .val (.int p1), .val (.int (1 : Int32)), .val (.ref (A 2))] [(.ref (A 2))])) (fun _ k => XS.aloadN X5.here hx rfl (hb hby at_22) rfl rfl k) ?_
      refine own_go (B := T5.setTop (mkF m 28 #[.val (.int p0), .val (.int p1), .val (.int (1 : Int32)), .val (.ref (A 2))] [])) (fun _ k => XT.ifnonnullYes X5.here hx rfl (pc0 := 23) (pc' := 28) rfl (hb hby at_23) rfl (by decide) (by decide) k) ?_
      refine own_go (B := T5.setTop (mkF m 29 #[.val (.int p0), .val (.int p1), .val (.int (1 : Int32)), .val (.ref (A 2))] [(.ref (A 2))])) (fun _ k => XS.aloadN X5.here hx rfl (hb hby at_28) rfl rfl k) ?_
      refine own_go (B := T5.setTop (mkF m 30 #[.val (.int p0), .val (.int p1), .val (.int (1 : Int32)), .val (.ref (A 2))] [(.int (1 : Int32)), (.ref (A 2))])) (fun _ k => XS.iloadN X5.here hx rfl (hb hby at_29) rfl k) ?_
      obtain ⟨_, _, ⟨T6, L6, k6, n6⟩, -, X6, ⟨Lc6, hQ6, l6, y6, z6⟩, st6⟩ := Jvm.LawKit.callS X5 hx (y := (⟨"com/example/quorumhand/quorumhand/engine/BrokerStateOfPinLaw", "expected", "(I)Lcom/example/quorumhand/quorumhand/engine/BrokerState;"⟩ : MethodName)) hown (mvT hZ (hw _ (List.mem_of_getElem? (i := 28) rfl))) (mvT hZ (hw _ (List.mem_of_getElem? (i := 29) rfl))) (mvT hZ (hw _ (List.mem_of_getElem? (i := 30) rfl))) (mvT hZ (hw _ (List.mem_of_getElem? (i := 31) rfl))) (by decide) (own_back (W := 1) (rm3_1 l Z a0 hw []  A hW T5.heap x5 ) hZ (hw _ (List.mem_of_getElem? (i := 31) rfl)) (hw _ (List.mem_of_getElem? (i := 30) rfl)) (by decide) (by decide)) (g := (mkF m 30 #[.val (.int p0), .val (.int p1), .val (.int (1 : Int32)), .val (.ref (A 2))] [(.int (1 : Int32)), (.ref (A 2))])) rfl (by rw [hml]; rfl) (argsL := [(.int (1 : Int32))]) (rest := [(.ref (A 2))]) (lenOf pd_1 rfl) rfl (by show 2 * 0 + _ ≤ _; exact Nat.le_of_eq rfl) (hb hby at_30) (fun _ _ => ⟨rfl, rfl, (by decide : 1 + 0 ≤ _), (by decide : 7 + 0 ≤ _)⟩)
      dsimp only [Pt.U, Pt.locs, Pt.cells, Pt.slots] at X6 l6 y6 z6 st6 hQ6
      subst l6 y6 z6
      obtain ⟨rfl, N6q, e6⟩ := hQ6
      have N6 := Fr.app N5 N6q
      refine own_go (B := T6.setTop (mkF m 33 #[.val (.int p0), .val (.int p1), .val (.int (1 : Int32)), .val (.ref (A 2))] [(.ref (A 2)), (.ref (A 2))])) st6 ?_
      refine own_go (B := T6.setTop (mkF m 38 #[.val (.int p0), .val (.int p1), .val (.int (1 : Int32)), .val (.ref (A 2))] [])) (fun _ k => Jvm.RoadKit.acmp (g := (mkF m 33 #[.val (.int p0), .val (.int p1), .val (.int (1 : Int32)), .val (.ref (A 2))] [(.ref (A 2)), (.ref (A 2))])) X6 hx rfl rfl rfl (pc0 := 33) (pc' := 38) (same := true) rfl (hb hby at_33) rfl (decide_eq_true rfl) (by decide) (by decide) k) ?_
      refine own_go (B := T6.setTop (mkF m 39 #[.val (.int p0), .val (.int p1), .val (.int (1 : Int32)), .val (.ref (A 2))] [(.ref (A 2))])) (fun _ k => XS.aloadN X6.here hx rfl (hb hby at_38) rfl rfl k) ?_
      obtain ⟨T7, X7, e7, st7⟩ := getS2 X6 hx hZ hown (host := "") (Or.inl (hw _ (List.mem_of_getElem? (i := 33) rfl))) Via.refl e6 (S_UNKNOWN.ext x5) (g := (mkF m 39 #[.val (.int p0), .val (.int p1), .val (.int (1 : Int32)), .val (.ref (A 2))] [(.ref (A 2))])) rfl (hb hby at_39)
      refine own_go (B := T7.setTop (mkF m 42 #[.val (.int p0), .val (.int p1), .val (.int (1 : Int32)), .val (.ref (A 2))] [(.ref (A 7)), (.ref (A 2))])) st7 ?_
      refine own_go (B := T7.setTop (mkF m 45 #[.val (.int p0), .val (.int p1), .val (.int (1 : Int32)), .val (.ref (A 2))] [])) (fun _ k => Jvm.RoadKit.acmp (g := (mkF m 42 #[.val (.int p0), .val (.int p1), .val (.int (1 : Int32)), .val (.ref (A 2))] [(.ref (A 7)), (.ref (A 2))])) X7 hx rfl rfl rfl (pc0 := 42) (pc' := 45) (same := false) rfl (hb hby at_42) rfl (decide_eq_false fun q => (own_ne F_STARTING_value F_UNKNOWN_value (by decide)) (Value.ref.inj q)) (by decide) (by decide) k) ?_
      refine own_go (B := T7.setTop (mkF m 46 #[.val (.int p0), .val (.int p1), .val (.int (1 : Int32)), .val (.ref (A 2))] [(.ref (A 2))])) (fun _ k => XS.aloadN X7.here hx rfl (hb hby at_45) rfl rfl k) ?_
      obtain ⟨cq8, kq8, q8a, q8b, q8c⟩ := isOf hZ e7 (E_STARTING.ext x5)
      obtain ⟨_, _, ⟨T8, L8, k8, n8⟩, -, X8, ⟨Lc8, hQ8, l8, y8, z8⟩, st8⟩ := X7.virtualBack hx (y := (⟨"com/example/quorumhand/quorumhand/engine/BrokerState", "value", "()I"⟩ : MethodName)) (z := (⟨"com/example/quorumhand/quorumhand/engine/BrokerState", "value", "()I"⟩ : MethodName)) hown (mvT hZ (hw _ (List.mem_of_getElem? (i := 34) rfl))) (mvT hZ (hw _ (List.mem_of_getElem? (i := 35) rfl))) (notFace_of_selects (args := #[]) (mvT hZ (hw _ (List.mem_of_getElem? (i := 37) rfl)))) (mvT hZ (hw _ (List.mem_of_getElem? (i := 37) rfl))) (mvT hZ (hw _ (List.mem_of_getElem? (i := 36) rfl))) (by decide) (own_back (W := 0) (rm4_1 l Z a0 hw []  A hW T5.heap x5 ) hZ (hw _ (List.mem_of_getElem? (i := 38) rfl)) (hw _ (List.mem_of_getElem? (i := 2) rfl)) (by decide) (by decide)) q8a q8c (g := (mkF m 46 #[.val (.int p0), .val (.int p1), .val (.int (1 : Int32)), .val (.ref (A 2))] [(.ref (A 2))])) rfl (by rw [hml]; rfl) (Steps.refl _) (argsL := []) (rest := []) (lenOf pd_2 rfl) rfl (by show 2 * 0 + _ ≤ _; exact Nat.le_of_eq rfl) (hb hby at_46) (fun _ _ => ⟨rfl, e7, (by decide : 1 + 0 ≤ _), (by decide : 7 + 0 ≤ _)⟩)
      dsimp only [Pt.U, Pt.locs, Pt.cells, Pt.slots] at X8 l8 y8 z8 st8 hQ8
      subst l8 y8 z8
      obtain ⟨rfl, N8q, e8⟩ := hQ8
      have N8 := Fr.app N6 N8q
      refine own_go (B := T8.setTop (mkF m 49 #[.val (.int p0), .val (.int p1), .val (.int (1 : Int32)), .val (.ref (A 2))] [(.int (1 : Int32))])) (fun _ k => st8.trans k) ?_
      refine own_go (B := T8.setTop (mkF m 50 #[.val (.int p0), .val (.int p1), .val (.int (1 : Int32)), .val (.ref (A 2))] [(.int (1 : Int32)), (.int (1 : Int32))])) (fun _ k => XS.iloadN X8.here hx rfl (hb hby at_49) rfl k) ?_
      refine own_go (B := T8.setTop (mkF m 55 #[.val (.int p0), .val (.int p1), .val (.int (1 : Int32)), .val (.ref (A 2))] [])) (fun _ k => XS.icmpYes X8.here hx rfl (pc0 := 50) (pc' := 55) rfl (hb hby at_50) rfl (by decide) (by decide) (by decide) k) ?_
      refine own_go (B := T8.setTop (mkF m 56 #[.val (.int p0), .val (.int p1), .val (.int (1 : Int32)), .val (.ref (A 2))] [(.int (1 : Int32))])) (fun _ k => XT.iconstV X8.here hx rfl (1 : Int32) (hb hby at_55) rfl k) ?_
      exact own_ret X8 hx (t := .boolean) hrt rfl (Or.inl ⟨rfl, by simp, _, rfl⟩) (hb hby at_56) hlk ⟨rfl, N8⟩ (by decide) (by decide)
    · refine own_go (B := s₁.setTop (mkF m 18 #[.val (.int p0), .val (.int p1), .val (.int (2 : Int32)), .unset] [(.int (2 : Int32))])) (fun _ k => XS.iloadN X0.here hx rfl (hb hby at_17) rfl k) ?_
      obtain ⟨_, _, ⟨T9, L9, k9, n9⟩, -, X9, ⟨Lc9, hQ9, l9, y9, z9⟩, st9⟩ := Jvm.LawKit.callS X0 hx (y := (⟨"com/example/quorumhand/quorumhand/engine/BrokerState", "of", "(I)Lcom/example/quorumhand/quorumhand/engine/BrokerState;"⟩ : MethodName)) hown (mvT hZ (hw _ (List.mem_of_getElem? (i := 0) rfl))) (mvT hZ (hw _ (List.mem_of_getElem? (i := 1) rfl))) (mvT hZ (hw _ (List.mem_of_getElem? (i := 2) rfl))) (mvT hZ (hw _ (List.mem_of_getElem? (i := 3) rfl))) (by decide) (own_back (W := 0) (rmO2 l Z a0 hw []  A hW h0 x0 ) hZ (hw _ (List.mem_of_getElem? (i := 3) rfl)) (hw _ (List.mem_of_getElem? (i := 2) rfl)) (by decide) (by decide)) (g := (mkF m 18 #[.val (.int p0), .val (.int p1), .val (.int (2 : Int32)), .unset] [(.int (2 : Int32))])) rfl (by rw [hml]; rfl) (argsL := [(.int (2 : Int32))]) (rest := []) (lenOf pd_1 rfl) rfl (by show 2 * 0 + _ ≤ _; exact Nat.le_of_eq rfl) (hb hby at_18) (fun _ _ => ⟨rfl, e0, (by decide : 0 + 1 ≤ _), (by decide : 0 + 7 ≤ _)⟩)
      dsimp only [Pt.U, Pt.locs, Pt.cells, Pt.slots] at X9 l9 y9 z9 st9 hQ9
      subst l9 y9 z9
      obtain ⟨rfl, N9q, E9⟩ := hQ9
      have N9 := Fr.app N0 N9q
      have x9 : Ext Z.heap T9.heap := own_xt x0 E9
      refine own_go (B := T9.setTop (mkF m 21 #[.val (.int p0), .val (.int p1), .val (.int (2 : Int32)), .unset] [(.ref (A 3))])) st9 ?_
      refine own_go (B := T9.setTop (mkF m 22 #[.val (.int p0), .val (.int p1), .val (.int (2 : Int32)), .val (.ref (A 3))] [])) (fun _ k => XS.astoreN X9.here hx rfl (hb hby at_21) rfl rfl (l' := #[.val (.int p0), .val (.int p1), .val (.int (2 : Int32)), .val (.ref (A 3))]) rfl k) ?_
      refine own_go (B := T9.setTop (mkF m 23 #[.val (.int p0), .val (.int p1), .val (.int (2 : Int32)), .val (.ref (A 3))] [(.ref (A 3))])) (fun _ k => XS.aloadN X9.here hx rfl (hb hby at_22) rfl rfl k) ?_
      refine own_go (B := T9.setTop (mkF m 28 #[.val (.int p0), .val (.int p1), .val (.int (2 : Int32)), .val (.ref (A 3))] [])) (fun _ k => XT.ifnonnullYes X9.here hx rfl (pc0 := 23) (pc' := 28) rfl (hb hby at_23) rfl (by decide) (by decide) k) ?_
      refine own_go (B := T9.setTop (mkF m 29 #[.val (.int p0), .val (.int p1), .val (.int (2 : Int32)), .val (.ref (A 3))] [(.ref (A 3))])) (fun _ k => XS.aloadN X9.here hx rfl (hb hby at_28) rfl rfl k) ?_
      refine own_go (B := T9.setTop (mkF m 30 #[.val (.int p0), .val (.int p1), .val (.int (2 : Int32)), .val (.ref (A 3))] [(.int (2 : Int32)), (.ref (A 3))])) (fun _ k => XS.iloadN X9.here hx rfl (hb hby at_29) rfl k) ?_
      obtain ⟨_, _, ⟨T10, L10, k10, n10⟩, -, X10, ⟨Lc10, hQ10, l10, y10, z10⟩, st10⟩ := Jvm.LawKit.callS X9 hx (y := (⟨"com/example/quorumhand/quorumhand/engine/BrokerStateOfPinLaw", "expected", "(I)Lcom/example/quorumhand/quorumhand/engine/BrokerState;"⟩ : MethodName)) hown (mvT hZ (hw _ (List.mem_of_getElem? (i := 28) rfl))) (mvT hZ (hw _ (List.mem_of_getElem? (i := 29) rfl))) (mvT hZ (hw _ (List.mem_of_getElem? (i := 30) rfl))) (mvT hZ (hw _ (List.mem_of_getElem? (i := 31) rfl))) (by decide) (own_back (W := 1) (rm3_2 l Z a0 hw []  A hW T9.heap x9 ) hZ (hw _ (List.mem_of_getElem? (i := 31) rfl)) (hw _ (List.mem_of_getElem? (i := 30) rfl)) (by decide) (by decide)) (g := (mkF m 30 #[.val (.int p0), .val (.int p1), .val (.int (2 : Int32)), .val (.ref (A 3))] [(.int (2 : Int32)), (.ref (A 3))])) rfl (by rw [hml]; rfl) (argsL := [(.int (2 : Int32))]) (rest := [(.ref (A 3))]) (lenOf pd_1 rfl) rfl (by show 2 * 0 + _ ≤ _; exact Nat.le_of_eq rfl) (hb hby at_30) (fun _ _ => ⟨rfl, rfl, (by decide : 1 + 0 ≤ _), (by decide : 7 + 0 ≤ _)⟩)
      dsimp only [Pt.U, Pt.locs, Pt.cells, Pt.slots] at X10 l10 y10 z10 st10 hQ10
      subst l10 y10 z10
      obtain ⟨rfl, N10q, e10⟩ := hQ10
      have N10 := Fr.app N9 N10q
      refine own_go (B := T10.setTop (mkF m 33 #[.val (.int p0), .val (.int p1), .val (.int (2 : Int32)), .val (.ref (A 3))] [(.ref (A 3)), (.ref (A 3))])) st10 ?_
      refine own_go (B := T10.setTop (mkF m 38 #[.val (.int p0), .val (.int p1), .val (.int (2 : Int32)), .val (.ref (A 3))] [])) (fun _ k => Jvm.RoadKit.acmp (g := (mkF m 33 #[.val (.int p0), .val (.int p1), .val (.int (2 : Int32)), .val (.ref (A 3))] [(.ref (A 3)), (.ref (A 3))])) X10 hx rfl rfl rfl (pc0 := 33) (pc' := 38) (same := true) rfl (hb hby at_33) rfl (decide_eq_true rfl) (by decide) (by decide) k) ?_
      refine own_go (B := T10.setTop (mkF m 39 #[.val (.int p0), .val (.int p1), .val (.int (2 : Int32)), .val (.ref (A 3))] [(.ref (A 3))])) (fun _ k => XS.aloadN X10.here hx rfl (hb hby at_38) rfl rfl k) ?_
      obtain ⟨T11, X11, e11, st11⟩ := getS2 X10 hx hZ hown (host := "") (Or.inl (hw _ (List.mem_of_getElem? (i := 33) rfl))) Via.refl e10 (S_UNKNOWN.ext x9) (g := (mkF m 39 #[.val (.int p0), .val (.int p1), .val (.int (2 : Int32)), .val (.ref (A 3))] [(.ref (A 3))])) rfl (hb hby at_39)
      refine own_go (B := T11.setTop (mkF m 42 #[.val (.int p0), .val (.int p1), .val (.int (2 : Int32)), .val (.ref (A 3))] [(.ref (A 7)), (.ref (A 3))])) st11 ?_
      refine own_go (B := T11.setTop (mkF m 45 #[.val (.int p0), .val (.int p1), .val (.int (2 : Int32)), .val (.ref (A 3))] [])) (fun _ k => Jvm.RoadKit.acmp (g := (mkF m 42 #[.val (.int p0), .val (.int p1), .val (.int (2 : Int32)), .val (.ref (A 3))] [(.ref (A 7)), (.ref (A 3))])) X11 hx rfl rfl rfl (pc0 := 42) (pc' := 45) (same := false) rfl (hb hby at_42) rfl (decide_eq_false fun q => (own_ne F_RECOVERY_value F_UNKNOWN_value (by decide)) (Value.ref.inj q)) (by decide) (by decide) k) ?_
      refine own_go (B := T11.setTop (mkF m 46 #[.val (.int p0), .val (.int p1), .val (.int (2 : Int32)), .val (.ref (A 3))] [(.ref (A 3))])) (fun _ k => XS.aloadN X11.here hx rfl (hb hby at_45) rfl rfl k) ?_
      obtain ⟨cq12, kq12, q12a, q12b, q12c⟩ := isOf hZ e11 (E_RECOVERY.ext x9)
      obtain ⟨_, _, ⟨T12, L12, k12, n12⟩, -, X12, ⟨Lc12, hQ12, l12, y12, z12⟩, st12⟩ := X11.virtualBack hx (y := (⟨"com/example/quorumhand/quorumhand/engine/BrokerState", "value", "()I"⟩ : MethodName)) (z := (⟨"com/example/quorumhand/quorumhand/engine/BrokerState", "value", "()I"⟩ : MethodName)) hown (mvT hZ (hw _ (List.mem_of_getElem? (i := 34) rfl))) (mvT hZ (hw _ (List.mem_of_getElem? (i := 35) rfl))) (notFace_of_selects (args := #[]) (mvT hZ (hw _ (List.mem_of_getElem? (i := 37) rfl)))) (mvT hZ (hw _ (List.mem_of_getElem? (i := 37) rfl))) (mvT hZ (hw _ (List.mem_of_getElem? (i := 36) rfl))) (by decide) (own_back (W := 0) (rm4_2 l Z a0 hw []  A hW T9.heap x9 ) hZ (hw _ (List.mem_of_getElem? (i := 38) rfl)) (hw _ (List.mem_of_getElem? (i := 2) rfl)) (by decide) (by decide)) q12a q12c (g := (mkF m 46 #[.val (.int p0), .val (.int p1), .val (.int (2 : Int32)), .val (.ref (A 3))] [(.ref (A 3))])) rfl (by rw [hml]; rfl) (Steps.refl _) (argsL := []) (rest := []) (lenOf pd_2 rfl) rfl (by show 2 * 0 + _ ≤ _; exact Nat.le_of_eq rfl) (hb hby at_46) (fun _ _ => ⟨rfl, e11, (by decide : 1 + 0 ≤ _), (by decide : 7 + 0 ≤ _)⟩)
      dsimp only [Pt.U, Pt.locs, Pt.cells, Pt.slots] at X12 l12 y12 z12 st12 hQ12
      subst l12 y12 z12
      obtain ⟨rfl, N12q, e12⟩ := hQ12
      have N12 := Fr.app N10 N12q
      refine own_go (B := T12.setTop (mkF m 49 #[.val (.int p0), .val (.int p1), .val (.int (2 : Int32)), .val (.ref (A 3))] [(.int (2 : Int32))])) (fun _ k => st12.trans k) ?_
      refine own_go (B := T12.setTop (mkF m 50 #[.val (.int p0), .val (.int p1), .val (.int (2 : Int32)), .val (.ref (A 3))] [(.int (2 : Int32)), (.int (2 : Int32))])) (fun _ k => XS.iloadN X12.here hx rfl (hb hby at_49) rfl k) ?_
      refine own_go (B := T12.setTop (mkF m 55 #[.val (.int p0), .val (.int p1), .val (.int (2 : Int32)), .val (.ref (A 3))] [])) (fun _ k => XS.icmpYes X12.here hx rfl (pc0 := 50) (pc' := 55) rfl (hb hby at_50) rfl (by decide) (by decide) (by decide) k) ?_
      refine own_go (B := T12.setTop (mkF m 56 #[.val (.int p0), .val (.int p1), .val (.int (2 : Int32)), .val (.ref (A 3))] [(.int (1 : Int32))])) (fun _ k => XT.iconstV X12.here hx rfl (1 : Int32) (hb hby at_55) rfl k) ?_
      exact own_ret X12 hx (t := .boolean) hrt rfl (Or.inl ⟨rfl, by simp, _, rfl⟩) (hb hby at_56) hlk ⟨rfl, N12⟩ (by decide) (by decide)
    · refine own_go (B := s₁.setTop (mkF m 18 #[.val (.int p0), .val (.int p1), .val (.int (3 : Int32)), .unset] [(.int (3 : Int32))])) (fun _ k => XS.iloadN X0.here hx rfl (hb hby at_17) rfl k) ?_
      obtain ⟨_, _, ⟨T13, L13, k13, n13⟩, -, X13, ⟨Lc13, hQ13, l13, y13, z13⟩, st13⟩ := Jvm.LawKit.callS X0 hx (y := (⟨"com/example/quorumhand/quorumhand/engine/BrokerState", "of", "(I)Lcom/example/quorumhand/quorumhand/engine/BrokerState;"⟩ : MethodName)) hown (mvT hZ (hw _ (List.mem_of_getElem? (i := 0) rfl))) (mvT hZ (hw _ (List.mem_of_getElem? (i := 1) rfl))) (mvT hZ (hw _ (List.mem_of_getElem? (i := 2) rfl))) (mvT hZ (hw _ (List.mem_of_getElem? (i := 3) rfl))) (by decide) (own_back (W := 0) (rmO3 l Z a0 hw []  A hW h0 x0 ) hZ (hw _ (List.mem_of_getElem? (i := 3) rfl)) (hw _ (List.mem_of_getElem? (i := 2) rfl)) (by decide) (by decide)) (g := (mkF m 18 #[.val (.int p0), .val (.int p1), .val (.int (3 : Int32)), .unset] [(.int (3 : Int32))])) rfl (by rw [hml]; rfl) (argsL := [(.int (3 : Int32))]) (rest := []) (lenOf pd_1 rfl) rfl (by show 2 * 0 + _ ≤ _; exact Nat.le_of_eq rfl) (hb hby at_18) (fun _ _ => ⟨rfl, e0, (by decide : 0 + 1 ≤ _), (by decide : 0 + 7 ≤ _)⟩)
      dsimp only [Pt.U, Pt.locs, Pt.cells, Pt.slots] at X13 l13 y13 z13 st13 hQ13
      subst l13 y13 z13
      obtain ⟨rfl, N13q, E13⟩ := hQ13
      have N13 := Fr.app N0 N13q
      have x13 : Ext Z.heap T13.heap := own_xt x0 E13
      refine own_go (B := T13.setTop (mkF m 21 #[.val (.int p0), .val (.int p1), .val (.int (3 : Int32)), .unset] [(.ref (A 4))])) st13 ?_
      refine own_go (B := T13.setTop (mkF m 22 #[.val (.int p0), .val (.int p1), .val (.int (3 : Int32)), .val (.ref (A 4))] [])) (fun _ k => XS.astoreN X13.here hx rfl (hb hby at_21) rfl rfl (l' := #[.val (.int p0), .val (.int p1), .val (.int (3 : Int32)), .val (.ref (A 4))]) rfl k) ?_
      refine own_go (B := T13.setTop (mkF m 23 #[.val (.int p0), .val (.int p1), .val (.int (3 : Int32)), .val (.ref (A 4))] [(.ref (A 4))])) (fun _ k => XS.aloadN X13.here hx rfl (hb hby at_22) rfl rfl k) ?_
      refine own_go (B := T13.setTop (mkF m 28 #[.val (.int p0), .val (.int p1), .val (.int (3 : Int32)), .val (.ref (A 4))] [])) (fun _ k => XT.ifnonnullYes X13.here hx rfl (pc0 := 23) (pc' := 28) rfl (hb hby at_23) rfl (by decide) (by decide) k) ?_
      refine own_go (B := T13.setTop (mkF m 29 #[.val (.int p0), .val (.int p1), .val (.int (3 : Int32)), .val (.ref (A 4))] [(.ref (A 4))])) (fun _ k => XS.aloadN X13.here hx rfl (hb hby at_28) rfl rfl k) ?_
      refine own_go (B := T13.setTop (mkF m 30 #[.val (.int p0), .val (.int p1), .val (.int (3 : Int32)), .val (.ref (A 4))] [(.int (3 : Int32)), (.ref (A 4))])) (fun _ k => XS.iloadN X13.here hx rfl (hb hby at_29) rfl k) ?_
      obtain ⟨_, _, ⟨T14, L14, k14, n14⟩, -, X14, ⟨Lc14, hQ14, l14, y14, z14⟩, st14⟩ := Jvm.LawKit.callS X13 hx (y := (⟨"com/example/quorumhand/quorumhand/engine/BrokerStateOfPinLaw", "expected", "(I)Lcom/example/quorumhand/quorumhand/engine/BrokerState;"⟩ : MethodName)) hown (mvT hZ (hw _ (List.mem_of_getElem? (i := 28) rfl))) (mvT hZ (hw _ (List.mem_of_getElem? (i := 29) rfl))) (mvT hZ (hw _ (List.mem_of_getElem? (i := 30) rfl))) (mvT hZ (hw _ (List.mem_of_getElem? (i := 31) rfl))) (by decide) (own_back (W := 1) (rm3_3 l Z a0 hw []  A hW T13.heap x13 ) hZ (hw _ (List.mem_of_getElem? (i := 31) rfl)) (hw _ (List.mem_of_getElem? (i := 30) rfl)) (by decide) (by decide)) (g := (mkF m 30 #[.val (.int p0), .val (.int p1), .val (.int (3 : Int32)), .val (.ref (A 4))] [(.int (3 : Int32)), (.ref (A 4))])) rfl (by rw [hml]; rfl) (argsL := [(.int (3 : Int32))]) (rest := [(.ref (A 4))]) (lenOf pd_1 rfl) rfl (by show 2 * 0 + _ ≤ _; exact Nat.le_of_eq rfl) (hb hby at_30) (fun _ _ => ⟨rfl, rfl, (by decide : 1 + 0 ≤ _), (by decide : 7 + 0 ≤ _)⟩)
      dsimp only [Pt.U, Pt.locs, Pt.cells, Pt.slots] at X14 l14 y14 z14 st14 hQ14
      subst l14 y14 z14
      obtain ⟨rfl, N14q, e14⟩ := hQ14
      have N14 := Fr.app N13 N14q
      refine own_go (B := T14.setTop (mkF m 33 #[.val (.int p0), .val (.int p1), .val (.int (3 : Int32)), .val (.ref (A 4))] [(.ref (A 4)), (.ref (A 4))])) st14 ?_
      refine own_go (B := T14.setTop (mkF m 38 #[.val (.int p0), .val (.int p1), .val (.int (3 : Int32)), .val (.ref (A 4))] [])) (fun _ k => Jvm.RoadKit.acmp (g := (mkF m 33 #[.val (.int p0), .val (.int p1), .val (.int (3 : Int32)), .val (.ref (A 4))] [(.ref (A 4)), (.ref (A 4))])) X14 hx rfl rfl rfl (pc0 := 33) (pc' := 38) (same := true) rfl (hb hby at_33) rfl (decide_eq_true rfl) (by decide) (by decide) k) ?_
      refine own_go (B := T14.setTop (mkF m 39 #[.val (.int p0), .val (.int p1), .val (.int (3 : Int32)), .val (.ref (A 4))] [(.ref (A 4))])) (fun _ k => XS.aloadN X14.here hx rfl (hb hby at_38) rfl rfl k) ?_
      obtain ⟨T15, X15, e15, st15⟩ := getS2 X14 hx hZ hown (host := "") (Or.inl (hw _ (List.mem_of_getElem? (i := 33) rfl))) Via.refl e14 (S_UNKNOWN.ext x13) (g := (mkF m 39 #[.val (.int p0), .val (.int p1), .val (.int (3 : Int32)), .val (.ref (A 4))] [(.ref (A 4))])) rfl (hb hby at_39)
      refine own_go (B := T15.setTop (mkF m 42 #[.val (.int p0), .val (.int p1), .val (.int (3 : Int32)), .val (.ref (A 4))] [(.ref (A 7)), (.ref (A 4))])) st15 ?_
      refine own_go (B := T15.setTop (mkF m 45 #[.val (.int p0), .val (.int p1), .val (.int (3 : Int32)), .val (.ref (A 4))] [])) (fun _ k => Jvm.RoadKit.acmp (g := (mkF m 42 #[.val (.int p0), .val (.int p1), .val (.int (3 : Int32)), .val (.ref (A 4))] [(.ref (A 7)), (.ref (A 4))])) X15 hx rfl rfl rfl (pc0 := 42) (pc' := 45) (same := false) rfl (hb hby at_42) rfl (decide_eq_false fun q => (own_ne F_RUNNING_value F_UNKNOWN_value (by decide)) (Value.ref.inj q)) (by decide) (by decide) k) ?_
      refine own_go (B := T15.setTop (mkF m 46 #[.val (.int p0), .val (.int p1), .val (.int (3 : Int32)), .val (.ref (A 4))] [(.ref (A 4))])) (fun _ k => XS.aloadN X15.here hx rfl (hb hby at_45) rfl rfl k) ?_
      obtain ⟨cq16, kq16, q16a, q16b, q16c⟩ := isOf hZ e15 (E_RUNNING.ext x13)
      obtain ⟨_, _, ⟨T16, L16, k16, n16⟩, -, X16, ⟨Lc16, hQ16, l16, y16, z16⟩, st16⟩ := X15.virtualBack hx (y := (⟨"com/example/quorumhand/quorumhand/engine/BrokerState", "value", "()I"⟩ : MethodName)) (z := (⟨"com/example/quorumhand/quorumhand/engine/BrokerState", "value", "()I"⟩ : MethodName)) hown (mvT hZ (hw _ (List.mem_of_getElem? (i := 34) rfl))) (mvT hZ (hw _ (List.mem_of_getElem? (i := 35) rfl))) (notFace_of_selects (args := #[]) (mvT hZ (hw _ (List.mem_of_getElem? (i := 37) rfl)))) (mvT hZ (hw _ (List.mem_of_getElem? (i := 37) rfl))) (mvT hZ (hw _ (List.mem_of_getElem? (i := 36) rfl))) (by decide) (own_back (W := 0) (rm4_3 l Z a0 hw []  A hW T13.heap x13 ) hZ (hw _ (List.mem_of_getElem? (i := 38) rfl)) (hw _ (List.mem_of_getElem? (i := 2) rfl)) (by decide) (by decide)) q16a q16c (g := (mkF m 46 #[.val (.int p0), .val (.int p1), .val (.int (3 : Int32)), .val (.ref (A 4))] [(.ref (A 4))])) rfl (by rw [hml]; rfl) (Steps.refl _) (argsL := []) (rest := []) (lenOf pd_2 rfl) rfl (by show 2 * 0 + _ ≤ _; exact Nat.le_of_eq rfl) (hb hby at_46) (fun _ _ => ⟨rfl, e15, (by decide : 1 + 0 ≤ _), (by decide : 7 + 0 ≤ _)⟩)
      dsimp only [Pt.U, Pt.locs, Pt.cells, Pt.slots] at X16 l16 y16 z16 st16 hQ16
      subst l16 y16 z16
      obtain ⟨rfl, N16q, e16⟩ := hQ16
      have N16 := Fr.app N14 N16q
      refine own_go (B := T16.setTop (mkF m 49 #[.val (.int p0), .val (.int p1), .val (.int (3 : Int32)), .val (.ref (A 4))] [(.int (3 : Int32))])) (fun _ k => st16.trans k) ?_
      refine own_go (B := T16.setTop (mkF m 50 #[.val (.int p0), .val (.int p1), .val (.int (3 : Int32)), .val (.ref (A 4))] [(.int (3 : Int32)), (.int (3 : Int32))])) (fun _ k => XS.iloadN X16.here hx rfl (hb hby at_49) rfl k) ?_
      refine own_go (B := T16.setTop (mkF m 55 #[.val (.int p0), .val (.int p1), .val (.int (3 : Int32)), .val (.ref (A 4))] [])) (fun _ k => XS.icmpYes X16.here hx rfl (pc0 := 50) (pc' := 55) rfl (hb hby at_50) rfl (by decide) (by decide) (by decide) k) ?_
      refine own_go (B := T16.setTop (mkF m 56 #[.val (.int p0), .val (.int p1), .val (.int (3 : Int32)), .val (.ref (A 4))] [(.int (1 : Int32))])) (fun _ k => XT.iconstV X16.here hx rfl (1 : Int32) (hb hby at_55) rfl k) ?_
      exact own_ret X16 hx (t := .boolean) hrt rfl (Or.inl ⟨rfl, by simp, _, rfl⟩) (hb hby at_56) hlk ⟨rfl, N16⟩ (by decide) (by decide)
    · refine own_go (B := s₁.setTop (mkF m 18 #[.val (.int p0), .val (.int p1), .val (.int (6 : Int32)), .unset] [(.int (6 : Int32))])) (fun _ k => XS.iloadN X0.here hx rfl (hb hby at_17) rfl k) ?_
      obtain ⟨_, _, ⟨T17, L17, k17, n17⟩, -, X17, ⟨Lc17, hQ17, l17, y17, z17⟩, st17⟩ := Jvm.LawKit.callS X0 hx (y := (⟨"com/example/quorumhand/quorumhand/engine/BrokerState", "of", "(I)Lcom/example/quorumhand/quorumhand/engine/BrokerState;"⟩ : MethodName)) hown (mvT hZ (hw _ (List.mem_of_getElem? (i := 0) rfl))) (mvT hZ (hw _ (List.mem_of_getElem? (i := 1) rfl))) (mvT hZ (hw _ (List.mem_of_getElem? (i := 2) rfl))) (mvT hZ (hw _ (List.mem_of_getElem? (i := 3) rfl))) (by decide) (own_back (W := 0) (rmO6 l Z a0 hw []  A hW h0 x0 ) hZ (hw _ (List.mem_of_getElem? (i := 3) rfl)) (hw _ (List.mem_of_getElem? (i := 2) rfl)) (by decide) (by decide)) (g := (mkF m 18 #[.val (.int p0), .val (.int p1), .val (.int (6 : Int32)), .unset] [(.int (6 : Int32))])) rfl (by rw [hml]; rfl) (argsL := [(.int (6 : Int32))]) (rest := []) (lenOf pd_1 rfl) rfl (by show 2 * 0 + _ ≤ _; exact Nat.le_of_eq rfl) (hb hby at_18) (fun _ _ => ⟨rfl, e0, (by decide : 0 + 1 ≤ _), (by decide : 0 + 7 ≤ _)⟩)
      dsimp only [Pt.U, Pt.locs, Pt.cells, Pt.slots] at X17 l17 y17 z17 st17 hQ17
      subst l17 y17 z17
      obtain ⟨rfl, N17q, E17⟩ := hQ17
      have N17 := Fr.app N0 N17q
      have x17 : Ext Z.heap T17.heap := own_xt x0 E17
      refine own_go (B := T17.setTop (mkF m 21 #[.val (.int p0), .val (.int p1), .val (.int (6 : Int32)), .unset] [(.ref (A 5))])) st17 ?_
      refine own_go (B := T17.setTop (mkF m 22 #[.val (.int p0), .val (.int p1), .val (.int (6 : Int32)), .val (.ref (A 5))] [])) (fun _ k => XS.astoreN X17.here hx rfl (hb hby at_21) rfl rfl (l' := #[.val (.int p0), .val (.int p1), .val (.int (6 : Int32)), .val (.ref (A 5))]) rfl k) ?_
      refine own_go (B := T17.setTop (mkF m 23 #[.val (.int p0), .val (.int p1), .val (.int (6 : Int32)), .val (.ref (A 5))] [(.ref (A 5))])) (fun _ k => XS.aloadN X17.here hx rfl (hb hby at_22) rfl rfl k) ?_
      refine own_go (B := T17.setTop (mkF m 28 #[.val (.int p0), .val (.int p1), .val (.int (6 : Int32)), .val (.ref (A 5))] [])) (fun _ k => XT.ifnonnullYes X17.here hx rfl (pc0 := 23) (pc' := 28) rfl (hb hby at_23) rfl (by decide) (by decide) k) ?_
      refine own_go (B := T17.setTop (mkF m 29 #[.val (.int p0), .val (.int p1), .val (.int (6 : Int32)), .val (.ref (A 5))] [(.ref (A 5))])) (fun _ k => XS.aloadN X17.here hx rfl (hb hby at_28) rfl rfl k) ?_
      refine own_go (B := T17.setTop (mkF m 30 #[.val (.int p0), .val (.int p1), .val (.int (6 : Int32)), .val (.ref (A 5))] [(.int (6 : Int32)), (.ref (A 5))])) (fun _ k => XS.iloadN X17.here hx rfl (hb hby at_29) rfl k) ?_
      obtain ⟨_, _, ⟨T18, L18, k18, n18⟩, -, X18, ⟨Lc18, hQ18, l18, y18, z18⟩, st18⟩ := Jvm.LawKit.callS X17 hx (y := (⟨"com/example/quorumhand/quorumhand/engine/BrokerStateOfPinLaw", "expected", "(I)Lcom/example/quorumhand/quorumhand/engine/BrokerState;"⟩ : MethodName)) hown (mvT hZ (hw _ (List.mem_of_getElem? (i := 28) rfl))) (mvT hZ (hw _ (List.mem_of_getElem? (i := 29) rfl))) (mvT hZ (hw _ (List.mem_of_getElem? (i := 30) rfl))) (mvT hZ (hw _ (List.mem_of_getElem? (i := 31) rfl))) (by decide) (own_back (W := 1) (rm3_4 l Z a0 hw []  A hW T17.heap x17 ) hZ (hw _ (List.mem_of_getElem? (i := 31) rfl)) (hw _ (List.mem_of_getElem? (i := 30) rfl)) (by decide) (by decide)) (g := (mkF m 30 #[.val (.int p0), .val (.int p1), .val (.int (6 : Int32)), .val (.ref (A 5))] [(.int (6 : Int32)), (.ref (A 5))])) rfl (by rw [hml]; rfl) (argsL := [(.int (6 : Int32))]) (rest := [(.ref (A 5))]) (lenOf pd_1 rfl) rfl (by show 2 * 0 + _ ≤ _; exact Nat.le_of_eq rfl) (hb hby at_30) (fun _ _ => ⟨rfl, rfl, (by decide : 1 + 0 ≤ _), (by decide : 7 + 0 ≤ _)⟩)
      dsimp only [Pt.U, Pt.locs, Pt.cells, Pt.slots] at X18 l18 y18 z18 st18 hQ18
      subst l18 y18 z18
      obtain ⟨rfl, N18q, e18⟩ := hQ18
      have N18 := Fr.app N17 N18q
      refine own_go (B := T18.setTop (mkF m 33 #[.val (.int p0), .val (.int p1), .val (.int (6 : Int32)), .val (.ref (A 5))] [(.ref (A 5)), (.ref (A 5))])) st18 ?_
      refine own_go (B := T18.setTop (mkF m 38 #[.val (.int p0), .val (.int p1), .val (.int (6 : Int32)), .val (.ref (A 5))] [])) (fun _ k => Jvm.RoadKit.acmp (g := (mkF m 33 #[.val (.int p0), .val (.int p1), .val (.int (6 : Int32)), .val (.ref (A 5))] [(.ref (A 5)), (.ref (A 5))])) X18 hx rfl rfl rfl (pc0 := 33) (pc' := 38) (same := true) rfl (hb hby at_33) rfl (decide_eq_true rfl) (by decide) (by decide) k) ?_
      refine own_go (B := T18.setTop (mkF m 39 #[.val (.int p0), .val (.int p1), .val (.int (6 : Int32)), .val (.ref (A 5))] [(.ref (A 5))])) (fun _ k => XS.aloadN X18.here hx rfl (hb hby at_38) rfl rfl k) ?_
      obtain ⟨T19, X19, e19, st19⟩ := getS2 X18 hx hZ hown (host := "") (Or.inl (hw _ (List.mem_of_getElem? (i := 33) rfl))) Via.refl e18 (S_UNKNOWN.ext x17) (g := (mkF m 39 #[.val (.int p0), .val (.int p1), .val (.int (6 : Int32)), .val (.ref (A 5))] [(.ref (A 5))])) rfl (hb hby at_39)
      refine own_go (B := T19.setTop (mkF m 42 #[.val (.int p0), .val (.int p1), .val (.int (6 : Int32)), .val (.ref (A 5))] [(.ref (A 7)), (.ref (A 5))])) st19 ?_
      refine own_go (B := T19.setTop (mkF m 45 #[.val (.int p0), .val (.int p1), .val (.int (6 : Int32)), .val (.ref (A 5))] [])) (fun _ k => Jvm.RoadKit.acmp (g := (mkF m 42 #[.val (.int p0), .val (.int p1), .val (.int (6 : Int32)), .val (.ref (A 5))] [(.ref (A 7)), (.ref (A 5))])) X19 hx rfl rfl rfl (pc0 := 42) (pc' := 45) (same := false) rfl (hb hby at_42) rfl (decide_eq_false fun q => (own_ne F_PENDING_CONTROLLED_SHUTDOWN_value F_UNKNOWN_value (by decide)) (Value.ref.inj q)) (by decide) (by decide) k) ?_
      refine own_go (B := T19.setTop (mkF m 46 #[.val (.int p0), .val (.int p1), .val (.int (6 : Int32)), .val (.ref (A 5))] [(.ref (A 5))])) (fun _ k => XS.aloadN X19.here hx rfl (hb hby at_45) rfl rfl k) ?_
      obtain ⟨cq20, kq20, q20a, q20b, q20c⟩ := isOf hZ e19 (E_PENDING_CONTROLLED_SHUTDOWN.ext x17)
      obtain ⟨_, _, ⟨T20, L20, k20, n20⟩, -, X20, ⟨Lc20, hQ20, l20, y20, z20⟩, st20⟩ := X19.virtualBack hx (y := (⟨"com/example/quorumhand/quorumhand/engine/BrokerState", "value", "()I"⟩ : MethodName)) (z := (⟨"com/example/quorumhand/quorumhand/engine/BrokerState", "value", "()I"⟩ : MethodName)) hown (mvT hZ (hw _ (List.mem_of_getElem? (i := 34) rfl))) (mvT hZ (hw _ (List.mem_of_getElem? (i := 35) rfl))) (notFace_of_selects (args := #[]) (mvT hZ (hw _ (List.mem_of_getElem? (i := 37) rfl)))) (mvT hZ (hw _ (List.mem_of_getElem? (i := 37) rfl))) (mvT hZ (hw _ (List.mem_of_getElem? (i := 36) rfl))) (by decide) (own_back (W := 0) (rm4_4 l Z a0 hw []  A hW T17.heap x17 ) hZ (hw _ (List.mem_of_getElem? (i := 38) rfl)) (hw _ (List.mem_of_getElem? (i := 2) rfl)) (by decide) (by decide)) q20a q20c (g := (mkF m 46 #[.val (.int p0), .val (.int p1), .val (.int (6 : Int32)), .val (.ref (A 5))] [(.ref (A 5))])) rfl (by rw [hml]; rfl) (Steps.refl _) (argsL := []) (rest := []) (lenOf pd_2 rfl) rfl (by show 2 * 0 + _ ≤ _; exact Nat.le_of_eq rfl) (hb hby at_46) (fun _ _ => ⟨rfl, e19, (by decide : 1 + 0 ≤ _), (by decide : 7 + 0 ≤ _)⟩)
      dsimp only [Pt.U, Pt.locs, Pt.cells, Pt.slots] at X20 l20 y20 z20 st20 hQ20
      subst l20 y20 z20
      obtain ⟨rfl, N20q, e20⟩ := hQ20
      have N20 := Fr.app N18 N20q
      refine own_go (B := T20.setTop (mkF m 49 #[.val (.int p0), .val (.int p1), .val (.int (6 : Int32)), .val (.ref (A 5))] [(.int (6 : Int32))])) (fun _ k => st20.trans k) ?_
      refine own_go (B := T20.setTop (mkF m 50 #[.val (.int p0), .val (.int p1), .val (.int (6 : Int32)), .val (.ref (A 5))] [(.int (6 : Int32)), (.int (6 : Int32))])) (fun _ k => XS.iloadN X20.here hx rfl (hb hby at_49) rfl k) ?_
      refine own_go (B := T20.setTop (mkF m 55 #[.val (.int p0), .val (.int p1), .val (.int (6 : Int32)), .val (.ref (A 5))] [])) (fun _ k => XS.icmpYes X20.here hx rfl (pc0 := 50) (pc' := 55) rfl (hb hby at_50) rfl (by decide) (by decide) (by decide) k) ?_
      refine own_go (B := T20.setTop (mkF m 56 #[.val (.int p0), .val (.int p1), .val (.int (6 : Int32)), .val (.ref (A 5))] [(.int (1 : Int32))])) (fun _ k => XT.iconstV X20.here hx rfl (1 : Int32) (hb hby at_55) rfl k) ?_
      exact own_ret X20 hx (t := .boolean) hrt rfl (Or.inl ⟨rfl, by simp, _, rfl⟩) (hb hby at_56) hlk ⟨rfl, N20⟩ (by decide) (by decide)
    · refine own_go (B := s₁.setTop (mkF m 18 #[.val (.int p0), .val (.int p1), .val (.int (7 : Int32)), .unset] [(.int (7 : Int32))])) (fun _ k => XS.iloadN X0.here hx rfl (hb hby at_17) rfl k) ?_
      obtain ⟨_, _, ⟨T21, L21, k21, n21⟩, -, X21, ⟨Lc21, hQ21, l21, y21, z21⟩, st21⟩ := Jvm.LawKit.callS X0 hx (y := (⟨"com/example/quorumhand/quorumhand/engine/BrokerState", "of", "(I)Lcom/example/quorumhand/quorumhand/engine/BrokerState;"⟩ : MethodName)) hown (mvT hZ (hw _ (List.mem_of_getElem? (i := 0) rfl))) (mvT hZ (hw _ (List.mem_of_getElem? (i := 1) rfl))) (mvT hZ (hw _ (List.mem_of_getElem? (i := 2) rfl))) (mvT hZ (hw _ (List.mem_of_getElem? (i := 3) rfl))) (by decide) (own_back (W := 0) (rmO7 l Z a0 hw []  A hW h0 x0 ) hZ (hw _ (List.mem_of_getElem? (i := 3) rfl)) (hw _ (List.mem_of_getElem? (i := 2) rfl)) (by decide) (by decide)) (g := (mkF m 18 #[.val (.int p0), .val (.int p1), .val (.int (7 : Int32)), .unset] [(.int (7 : Int32))])) rfl (by rw [hml]; rfl) (argsL := [(.int (7 : Int32))]) (rest := []) (lenOf pd_1 rfl) rfl (by show 2 * 0 + _ ≤ _; exact Nat.le_of_eq rfl) (hb hby at_18) (fun _ _ => ⟨rfl, e0, (by decide : 0 + 1 ≤ _), (by decide : 0 + 7 ≤ _)⟩)
      dsimp only [Pt.U, Pt.locs, Pt.cells, Pt.slots] at X21 l21 y21 z21 st21 hQ21
      subst l21 y21 z21
      obtain ⟨rfl, N21q, E21⟩ := hQ21
      have N21 := Fr.app N0 N21q
      have x21 : Ext Z.heap T21.heap := own_xt x0 E21
      refine own_go (B := T21.setTop (mkF m 21 #[.val (.int p0), .val (.int p1), .val (.int (7 : Int32)), .unset] [(.ref (A 6))])) st21 ?_
      refine own_go (B := T21.setTop (mkF m 22 #[.val (.int p0), .val (.int p1), .val (.int (7 : Int32)), .val (.ref (A 6))] [])) (fun _ k => XS.astoreN X21.here hx rfl (hb hby at_21) rfl rfl (l' := #[.val (.int p0), .val (.int p1), .val (.int (7 : Int32)), .val (.ref (A 6))]) rfl k) ?_
      refine own_go (B := T21.setTop (mkF m 23 #[.val (.int p0), .val (.int p1), .val (.int (7 : Int32)), .val (.ref (A 6))] [(.ref (A 6))])) (fun _ k => XS.aloadN X21.here hx rfl (hb hby at_22) rfl rfl k) ?_
      refine own_go (B := T21.setTop (mkF m 28 #[.val (.int p0), .val (.int p1), .val (.int (7 : Int32)), .val (.ref (A 6))] [])) (fun _ k => XT.ifnonnullYes X21.here hx rfl (pc0 := 23) (pc' := 28) rfl (hb hby at_23) rfl (by decide) (by decide) k) ?_
      refine own_go (B := T21.setTop (mkF m 29 #[.val (.int p0), .val (.int p1), .val (.int (7 : Int32)), .val (.ref (A 6))] [(.ref (A 6))])) (fun _ k => XS.aloadN X21.here hx rfl (hb hby at_28) rfl rfl k) ?_
      refine own_go (B := T21.setTop (mkF m 30 #[.val (.int p0), .val (.int p1), .val (.int (7 : Int32)), .val (.ref (A 6))] [(.int (7 : Int32)), (.ref (A 6))])) (fun _ k => XS.iloadN X21.here hx rfl (hb hby at_29) rfl k) ?_
      obtain ⟨_, _, ⟨T22, L22, k22, n22⟩, -, X22, ⟨Lc22, hQ22, l22, y22, z22⟩, st22⟩ := Jvm.LawKit.callS X21 hx (y := (⟨"com/example/quorumhand/quorumhand/engine/BrokerStateOfPinLaw", "expected", "(I)Lcom/example/quorumhand/quorumhand/engine/BrokerState;"⟩ : MethodName)) hown (mvT hZ (hw _ (List.mem_of_getElem? (i := 28) rfl))) (mvT hZ (hw _ (List.mem_of_getElem? (i := 29) rfl))) (mvT hZ (hw _ (List.mem_of_getElem? (i := 30) rfl))) (mvT hZ (hw _ (List.mem_of_getElem? (i := 31) rfl))) (by decide) (own_back (W := 1) (rm3_5 l Z a0 hw []  A hW T21.heap x21 ) hZ (hw _ (List.mem_of_getElem? (i := 31) rfl)) (hw _ (List.mem_of_getElem? (i := 30) rfl)) (by decide) (by decide)) (g := (mkF m 30 #[.val (.int p0), .val (.int p1), .val (.int (7 : Int32)), .val (.ref (A 6))] [(.int (7 : Int32)), (.ref (A 6))])) rfl (by rw [hml]; rfl) (argsL := [(.int (7 : Int32))]) (rest := [(.ref (A 6))]) (lenOf pd_1 rfl) rfl (by show 2 * 0 + _ ≤ _; exact Nat.le_of_eq rfl) (hb hby at_30) (fun _ _ => ⟨rfl, rfl, (by decide : 1 + 0 ≤ _), (by decide : 7 + 0 ≤ _)⟩)
      dsimp only [Pt.U, Pt.locs, Pt.cells, Pt.slots] at X22 l22 y22 z22 st22 hQ22
      subst l22 y22 z22
      obtain ⟨rfl, N22q, e22⟩ := hQ22
      have N22 := Fr.app N21 N22q
      refine own_go (B := T22.setTop (mkF m 33 #[.val (.int p0), .val (.int p1), .val (.int (7 : Int32)), .val (.ref (A 6))] [(.ref (A 6)), (.ref (A 6))])) st22 ?_
      refine own_go (B := T22.setTop (mkF m 38 #[.val (.int p0), .val (.int p1), .val (.int (7 : Int32)), .val (.ref (A 6))] [])) (fun _ k => Jvm.RoadKit.acmp (g := (mkF m 33 #[.val (.int p0), .val (.int p1), .val (.int (7 : Int32)), .val (.ref (A 6))] [(.ref (A 6)), (.ref (A 6))])) X22 hx rfl rfl rfl (pc0 := 33) (pc' := 38) (same := true) rfl (hb hby at_33) rfl (decide_eq_true rfl) (by decide) (by decide) k) ?_
      refine own_go (B := T22.setTop (mkF m 39 #[.val (.int p0), .val (.int p1), .val (.int (7 : Int32)), .val (.ref (A 6))] [(.ref (A 6))])) (fun _ k => XS.aloadN X22.here hx rfl (hb hby at_38) rfl rfl k) ?_
      obtain ⟨T23, X23, e23, st23⟩ := getS2 X22 hx hZ hown (host := "") (Or.inl (hw _ (List.mem_of_getElem? (i := 33) rfl))) Via.refl e22 (S_UNKNOWN.ext x21) (g := (mkF m 39 #[.val (.int p0), .val (.int p1), .val (.int (7 : Int32)), .val (.ref (A 6))] [(.ref (A 6))])) rfl (hb hby at_39)
      refine own_go (B := T23.setTop (mkF m 42 #[.val (.int p0), .val (.int p1), .val (.int (7 : Int32)), .val (.ref (A 6))] [(.ref (A 7)), (.ref (A 6))])) st23 ?_
      refine own_go (B := T23.setTop (mkF m 45 #[.val (.int p0), .val (.int p1), .val (.int (7 : Int32)), .val (.ref (A 6))] [])) (fun _ k => Jvm.RoadKit.acmp (g := (mkF m 42 #[.val (.int p0), .val (.int p1), .val (.int (7 : Int32)), .val (.ref (A 6))] [(.ref (A 7)), (.ref (A 6))])) X23 hx rfl rfl rfl (pc0 := 42) (pc' := 45) (same := false) rfl (hb hby at_42) rfl (decide_eq_false fun q => (own_ne F_SHUTTING_DOWN_value F_UNKNOWN_value (by decide)) (Value.ref.inj q)) (by decide) (by decide) k) ?_
      refine own_go (B := T23.setTop (mkF m 46 #[.val (.int p0), .val (.int p1), .val (.int (7 : Int32)), .val (.ref (A 6))] [(.ref (A 6))])) (fun _ k => XS.aloadN X23.here hx rfl (hb hby at_45) rfl rfl k) ?_
      obtain ⟨cq24, kq24, q24a, q24b, q24c⟩ := isOf hZ e23 (E_SHUTTING_DOWN.ext x21)
      obtain ⟨_, _, ⟨T24, L24, k24, n24⟩, -, X24, ⟨Lc24, hQ24, l24, y24, z24⟩, st24⟩ := X23.virtualBack hx (y := (⟨"com/example/quorumhand/quorumhand/engine/BrokerState", "value", "()I"⟩ : MethodName)) (z := (⟨"com/example/quorumhand/quorumhand/engine/BrokerState", "value", "()I"⟩ : MethodName)) hown (mvT hZ (hw _ (List.mem_of_getElem? (i := 34) rfl))) (mvT hZ (hw _ (List.mem_of_getElem? (i := 35) rfl))) (notFace_of_selects (args := #[]) (mvT hZ (hw _ (List.mem_of_getElem? (i := 37) rfl)))) (mvT hZ (hw _ (List.mem_of_getElem? (i := 37) rfl))) (mvT hZ (hw _ (List.mem_of_getElem? (i := 36) rfl))) (by decide) (own_back (W := 0) (rm4_5 l Z a0 hw []  A hW T21.heap x21 ) hZ (hw _ (List.mem_of_getElem? (i := 38) rfl)) (hw _ (List.mem_of_getElem? (i := 2) rfl)) (by decide) (by decide)) q24a q24c (g := (mkF m 46 #[.val (.int p0), .val (.int p1), .val (.int (7 : Int32)), .val (.ref (A 6))] [(.ref (A 6))])) rfl (by rw [hml]; rfl) (Steps.refl _) (argsL := []) (rest := []) (lenOf pd_2 rfl) rfl (by show 2 * 0 + _ ≤ _; exact Nat.le_of_eq rfl) (hb hby at_46) (fun _ _ => ⟨rfl, e23, (by decide : 1 + 0 ≤ _), (by decide : 7 + 0 ≤ _)⟩)
      dsimp only [Pt.U, Pt.locs, Pt.cells, Pt.slots] at X24 l24 y24 z24 st24 hQ24
      subst l24 y24 z24
      obtain ⟨rfl, N24q, e24⟩ := hQ24
      have N24 := Fr.app N22 N24q
      refine own_go (B := T24.setTop (mkF m 49 #[.val (.int p0), .val (.int p1), .val (.int (7 : Int32)), .val (.ref (A 6))] [(.int (7 : Int32))])) (fun _ k => st24.trans k) ?_
      refine own_go (B := T24.setTop (mkF m 50 #[.val (.int p0), .val (.int p1), .val (.int (7 : Int32)), .val (.ref (A 6))] [(.int (7 : Int32)), (.int (7 : Int32))])) (fun _ k => XS.iloadN X24.here hx rfl (hb hby at_49) rfl k) ?_
      refine own_go (B := T24.setTop (mkF m 55 #[.val (.int p0), .val (.int p1), .val (.int (7 : Int32)), .val (.ref (A 6))] [])) (fun _ k => XS.icmpYes X24.here hx rfl (pc0 := 50) (pc' := 55) rfl (hb hby at_50) rfl (by decide) (by decide) (by decide) k) ?_
      refine own_go (B := T24.setTop (mkF m 56 #[.val (.int p0), .val (.int p1), .val (.int (7 : Int32)), .val (.ref (A 6))] [(.int (1 : Int32))])) (fun _ k => XT.iconstV X24.here hx rfl (1 : Int32) (hb hby at_55) rfl k) ?_
      exact own_ret X24 hx (t := .boolean) hrt rfl (Or.inl ⟨rfl, by simp, _, rfl⟩) (hb hby at_56) hlk ⟨rfl, N24⟩ (by decide) (by decide)
    · refine own_go (B := s₁.setTop (mkF m 18 #[.val (.int p0), .val (.int p1), .val (.int v), .unset] [(.int v)])) (fun _ k => XS.iloadN X0.here hx rfl (hb hby at_17) rfl k) ?_
      obtain ⟨_, _, ⟨T25, L25, k25, n25⟩, -, X25, ⟨Lc25, hQ25, l25, y25, z25⟩, st25⟩ := Jvm.LawKit.callS X0 hx (y := (⟨"com/example/quorumhand/quorumhand/engine/BrokerState", "of", "(I)Lcom/example/quorumhand/quorumhand/engine/BrokerState;"⟩ : MethodName)) hown (mvT hZ (hw _ (List.mem_of_getElem? (i := 0) rfl))) (mvT hZ (hw _ (List.mem_of_getElem? (i := 1) rfl))) (mvT hZ (hw _ (List.mem_of_getElem? (i := 2) rfl))) (mvT hZ (hw _ (List.mem_of_getElem? (i := 3) rfl))) (by decide) (own_back (W := 0) (rmO l Z a0 hw [] v A hW h0 x0 n0 n1 n2 n3 n6 n7) hZ (hw _ (List.mem_of_getElem? (i := 3) rfl)) (hw _ (List.mem_of_getElem? (i := 2) rfl)) (by decide) (by decide)) (g := (mkF m 18 #[.val (.int p0), .val (.int p1), .val (.int v), .unset] [(.int v)])) rfl (by rw [hml]; rfl) (argsL := [(.int v)]) (rest := []) (lenOf pd_1 rfl) rfl (by show 2 * 0 + _ ≤ _; exact Nat.le_of_eq rfl) (hb hby at_18) (fun _ _ => ⟨rfl, e0, (by decide : 0 + 1 ≤ _), (by decide : 0 + 7 ≤ _)⟩)
      dsimp only [Pt.U, Pt.locs, Pt.cells, Pt.slots] at X25 l25 y25 z25 st25 hQ25
      subst l25 y25 z25
      obtain ⟨rfl, N25q, E25⟩ := hQ25
      have N25 := Fr.app N0 N25q
      have x25 : Ext Z.heap T25.heap := own_xt x0 E25
      refine own_go (B := T25.setTop (mkF m 21 #[.val (.int p0), .val (.int p1), .val (.int v), .unset] [(.ref (A 7))])) st25 ?_
      refine own_go (B := T25.setTop (mkF m 22 #[.val (.int p0), .val (.int p1), .val (.int v), .val (.ref (A 7))] [])) (fun _ k => XS.astoreN X25.here hx rfl (hb hby at_21) rfl rfl (l' := #[.val (.int p0), .val (.int p1), .val (.int v), .val (.ref (A 7))]) rfl k) ?_
      refine own_go (B := T25.setTop (mkF m 23 #[.val (.int p0), .val (.int p1), .val (.int v), .val (.ref (A 7))] [(.ref (A 7))])) (fun _ k => XS.aloadN X25.here hx rfl (hb hby at_22) rfl rfl k) ?_
      refine own_go (B := T25.setTop (mkF m 28 #[.val (.int p0), .val (.int p1), .val (.int v), .val (.ref (A 7))] [])) (fun _ k => XT.ifnonnullYes X25.here hx rfl (pc0 := 23) (pc' := 28) rfl (hb hby at_23) rfl (by decide) (by decide) k) ?_
      refine own_go (B := T25.setTop (mkF m 29 #[.val (.int p0), .val (.int p1), .val (.int v), .val (.ref (A 7))] [(.ref (A 7))])) (fun _ k => XS.aloadN X25.here hx rfl (hb hby at_28) rfl rfl k) ?_
      refine own_go (B := T25.setTop (mkF m 30 #[.val (.int p0), .val (.int p1), .val (.int v), .val (.ref (A 7))] [(.int v), (.ref (A 7))])) (fun _ k => XS.iloadN X25.here hx rfl (hb hby at_29) rfl k) ?_
      obtain ⟨_, _, ⟨T26, L26, k26, n26⟩, -, X26, ⟨Lc26, hQ26, l26, y26, z26⟩, st26⟩ := Jvm.LawKit.callS X25 hx (y := (⟨"com/example/quorumhand/quorumhand/engine/BrokerStateOfPinLaw", "expected", "(I)Lcom/example/quorumhand/quorumhand/engine/BrokerState;"⟩ : MethodName)) hown (mvT hZ (hw _ (List.mem_of_getElem? (i := 28) rfl))) (mvT hZ (hw _ (List.mem_of_getElem? (i := 29) rfl))) (mvT hZ (hw _ (List.mem_of_getElem? (i := 30) rfl))) (mvT hZ (hw _ (List.mem_of_getElem? (i := 31) rfl))) (by decide) (own_back (W := 1) (rm3_6 l Z a0 hw [] v A hW T25.heap x25 n0 n1 n2 n3 n6 n7) hZ (hw _ (List.mem_of_getElem? (i := 31) rfl)) (hw _ (List.mem_of_getElem? (i := 30) rfl)) (by decide) (by decide)) (g := (mkF m 30 #[.val (.int p0), .val (.int p1), .val (.int v), .val (.ref (A 7))] [(.int v), (.ref (A 7))])) rfl (by rw [hml]; rfl) (argsL := [(.int v)]) (rest := [(.ref (A 7))]) (lenOf pd_1 rfl) rfl (by show 2 * 0 + _ ≤ _; exact Nat.le_of_eq rfl) (hb hby at_30) (fun _ _ => ⟨rfl, rfl, (by decide : 1 + 0 ≤ _), (by decide : 7 + 0 ≤ _)⟩)
      dsimp only [Pt.U, Pt.locs, Pt.cells, Pt.slots] at X26 l26 y26 z26 st26 hQ26
      subst l26 y26 z26
      obtain ⟨rfl, N26q, e26⟩ := hQ26
      have N26 := Fr.app N25 N26q
      refine own_go (B := T26.setTop (mkF m 33 #[.val (.int p0), .val (.int p1), .val (.int v), .val (.ref (A 7))] [(.ref (A 7)), (.ref (A 7))])) st26 ?_
      refine own_go (B := T26.setTop (mkF m 38 #[.val (.int p0), .val (.int p1), .val (.int v), .val (.ref (A 7))] [])) (fun _ k => Jvm.RoadKit.acmp (g := (mkF m 33 #[.val (.int p0), .val (.int p1), .val (.int v), .val (.ref (A 7))] [(.ref (A 7)), (.ref (A 7))])) X26 hx rfl rfl rfl (pc0 := 33) (pc' := 38) (same := true) rfl (hb hby at_33) rfl (decide_eq_true rfl) (by decide) (by decide) k) ?_
      refine own_go (B := T26.setTop (mkF m 39 #[.val (.int p0), .val (.int p1), .val (.int v), .val (.ref (A 7))] [(.ref (A 7))])) (fun _ k => XS.aloadN X26.here hx rfl (hb hby at_38) rfl rfl k) ?_
      obtain ⟨T27, X27, e27, st27⟩ := getS2 X26 hx hZ hown (host := "") (Or.inl (hw _ (List.mem_of_getElem? (i := 33) rfl))) Via.refl e26 (S_UNKNOWN.ext x25) (g := (mkF m 39 #[.val (.int p0), .val (.int p1), .val (.int v), .val (.ref (A 7))] [(.ref (A 7))])) rfl (hb hby at_39)
      refine own_go (B := T27.setTop (mkF m 42 #[.val (.int p0), .val (.int p1), .val (.int v), .val (.ref (A 7))] [(.ref (A 7)), (.ref (A 7))])) st27 ?_
      refine own_go (B := T27.setTop (mkF m 55 #[.val (.int p0), .val (.int p1), .val (.int v), .val (.ref (A 7))] [])) (fun _ k => Jvm.RoadKit.acmp (g := (mkF m 42 #[.val (.int p0), .val (.int p1), .val (.int v), .val (.ref (A 7))] [(.ref (A 7)), (.ref (A 7))])) X27 hx rfl rfl rfl (pc0 := 42) (pc' := 55) (same := true) rfl (hb hby at_42) rfl (decide_eq_true rfl) (by decide) (by decide) k) ?_
      refine own_go (B := T27.setTop (mkF m 56 #[.val (.int p0), .val (.int p1), .val (.int v), .val (.ref (A 7))] [(.int (1 : Int32))])) (fun _ k => XT.iconstV X27.here hx rfl (1 : Int32) (hb hby at_55) rfl k) ?_
      exact own_ret X27 hx (t := .boolean) hrt rfl (Or.inl ⟨rfl, by simp, _, rfl⟩) (hb hby at_56) hlk ⟨rfl, N26⟩ (by decide) (by decide)
  refine own_go (B := s₁.setTop (mkF m 1 #[.val (.int p0), .val (.int p1), .unset, .unset] [(.int p1)])) (fun _ k => XS.iloadN X0.here hx rfl (hb hby at_0) rfl k) ?_
  refine own_go (B := s₁.setTop (mkF m 2 #[.val (.int p0), .val (.int p1), .unset, .unset] [(.int (1 : Int32)), (.int p1)])) (fun _ k => XT.iconstV X0.here hx rfl (1 : Int32) (hb hby at_1) rfl k) ?_
  refine own_go (B := s₁.setTop (mkF m 3 #[.val (.int p0), .val (.int p1), .unset, .unset] [(.int (p1 &&& (1 : Int32)))])) (fun _ k => XS.iand X0.here hx rfl (hb hby at_2) rfl k) ?_
  by_cases hc328 : (p1 &&& (1 : Int32)) = (0 : Int32)
  · refine own_go (B := s₁.setTop (mkF m 11 #[.val (.int p0), .val (.int p1), .unset, .unset] [])) (fun _ k => XS.ifYes X0.here hx rfl (pc0 := 3) (pc' := 11) rfl (hb hby at_3) rfl ((if0 _ _).trans (teq hc328).1) (by decide) (by decide) k) ?_
    refine own_go (B := s₁.setTop (mkF m 12 #[.val (.int p0), .val (.int p1), .unset, .unset] [(.int p0)])) (fun _ k => XS.iloadN X0.here hx rfl (hb hby at_11) rfl k) ?_
    refine own_go (B := s₁.setTop (mkF m 15 #[.val (.int p0), .val (.int p1), .unset, .unset] [(.int (256 : Int32)), (.int p0)])) (fun _ k => XT.sipushV X0.here hx rfl (256 : Int32) (hb hby at_12) (by decide) k) ?_
    refine own_go (B := s₁.setTop (mkF m 16 #[.val (.int p0), .val (.int p1), .unset, .unset] [(.int (p0 % (256 : Int32)))])) (fun _ k => iremM (g := (mkF m 15 #[.val (.int p0), .val (.int p1), .unset, .unset] [(.int (256 : Int32)), (.int p0)])) X0 hx rfl (hb hby at_15) rfl (by decide) k) ?_
    refine own_go (B := s₁.setTop (mkF m 17 #[.val (.int p0), .val (.int p1), .val (.int (p0 % (256 : Int32))), .unset] [])) (fun _ k => XS.istoreN X0.here hx rfl (hb hby at_16) rfl (l' := #[.val (.int p0), .val (.int p1), .val (.int (p0 % (256 : Int32))), .unset]) rfl k) ?_
    exact tail _
  · refine own_go (B := s₁.setTop (mkF m 6 #[.val (.int p0), .val (.int p1), .unset, .unset] [])) (fun _ k => XS.ifNo X0.here hx rfl (hb hby at_3) rfl ((if0 _ _).trans (feq hc328).1) k) ?_
    refine own_go (B := s₁.setTop (mkF m 7 #[.val (.int p0), .val (.int p1), .unset, .unset] [(.int p0)])) (fun _ k => XS.iloadN X0.here hx rfl (hb hby at_6) rfl k) ?_
    refine own_go (B := s₁.setTop (mkF m 8 #[.val (.int p0), .val (.int p1), .val (.int p0), .unset] [])) (fun _ k => XS.istoreN X0.here hx rfl (hb hby at_7) rfl (l' := #[.val (.int p0), .val (.int p1), .val (.int p0), .unset]) rfl k) ?_
    refine own_go (B := s₁.setTop (mkF m 17 #[.val (.int p0), .val (.int p1), .val (.int p0), .unset] [])) (fun _ k => XS.goto X0.here hx rfl (pc0 := 8) (pc' := 17) rfl (hb hby at_8) (by decide) (by decide) k) ?_
    exact tail _
set_option maxRecDepth 65536 in
set_option maxHeartbeats 40000000 in
theorem comes_1 {Post : Tables → Env → Array Value → State → Outcome → State → Prop} (hpost : ∀ tb e args s v u, (limb_1_1.after args s (.returned v) u = true ∧ limb_1_2.after args s (.returned v) u = true ∧ True) → FrameEnd s (.returned v) u (Jvm.fieldLocs frame_1_writes args s ++ Jvm.arrayLocs frame_1_arrays args s ++ Jvm.staticLocs frame_1_statics s) 16 128 → Post tb e args s (.returned v) u) :
    ArmFor flags0 classFile x code maxLocals ret World_1 tables_1 room_1 Calls_1 rest_1 Pre_1 Post := by
  intro l hfl _ _ p e ha hc hk s m args below hf hA hF happ hP
  obtain ⟨hcalls, hrest, hpre⟩ := hP
  obtain ⟨-, -, -, hnamed, -, -, -, hat⟩ := (Spec.applies_iff hf).mp happ
  obtain ⟨hg, hn⟩ := and_e (Cond.before_iff.mp (show (Jvm.Cond.and given_1 narrow_1).before args s = true from hpre))
  obtain ⟨g1a, g1b⟩ := and_e hg
  obtain ⟨g2a, g2b⟩ := and_e g1b
  obtain ⟨w0, w1, rfl⟩ : ∃ w0 w1 : Value, args = #[w0, w1] := by
    have hs : args.size = 2 := by simpa [Cond.value, given_1] using g1a
    obtain ⟨L⟩ := args
    match L, hs with
    | [w0, w1], _ => exact ⟨w0, w1, rfl⟩
  have hw := fun d (hd : d ∈ tables_1) => atoms_spec (ws := Jvm.Cond.code x code maxLocals ret :: tables_1) hat d (List.mem_cons_of_mem _ hd)
  obtain ⟨i0, ei0⟩ := is_v g2a
  obtain rfl : w0 = (.int i0) := Option.some.inj ei0
  obtain ⟨i1, ei1⟩ := is_v g2b
  obtain rfl : w1 = (.int i1) := Option.some.inj ei1
  have hfit : Fit s := fun {y c} hc i hi => by
    obtain ⟨ha, rfl⟩ := Array.getElem?_eq_some_iff.mp hc
    have q := List.all_eq_true.mp ((Array.all_eq_true_iff_forall_mem.mp hF) _ (Array.getElem_mem ha)) i (List.mem_range.mpr hi)
    simpa [Array.getElem?_eq_getElem hi] using q
  obtain ⟨u1a, u1b⟩ := and_e hn
  obtain ⟨u2a, u2b⟩ := and_e u1b
  obtain ⟨u3a, u3b⟩ := and_e u2b
  obtain ⟨u4a, u4b⟩ := and_e u3b
  obtain ⟨u5a, u5b⟩ := and_e u4b
  obtain ⟨u6a, u6b⟩ := and_e u5b
  obtain ⟨u7a, u7b⟩ := and_e u6b
  obtain ⟨u8a, u8b⟩ := and_e u7b
  obtain ⟨u9a, u9b⟩ := and_e u8b
  obtain ⟨u10a, u10b⟩ := and_e u9b
  obtain ⟨u11a, u11b⟩ := and_e u10b
  obtain ⟨u12a, u12b⟩ := and_e u11b
  obtain ⟨u13a, u13b⟩ := and_e u12b
  obtain ⟨u14a, u14b⟩ := and_e u13b
  obtain ⟨u15a, u15b⟩ := and_e u14b
  obtain ⟨u16a, u16b⟩ := and_e u15b
  obtain ⟨u17a, u17b⟩ := and_e u16b
  obtain ⟨u18a, u18b⟩ := and_e u17b
  obtain ⟨u19a, u19b⟩ := and_e u18b
  obtain ⟨u20a, u20b⟩ := and_e u19b
  obtain ⟨u21a, u21b⟩ := and_e u20b
  obtain ⟨u22a, u22b⟩ := and_e u21b
  obtain ⟨u23a, u23b⟩ := and_e u22b
  obtain ⟨u24a, u24b⟩ := and_e u23b
  obtain ⟨u25a, u25b⟩ := and_e u24b
  obtain ⟨u26a, u26b⟩ := and_e u25b
  obtain ⟨u27a, u27b⟩ := and_e u26b
  obtain ⟨u28a, u28b⟩ := and_e u27b
  obtain ⟨u29a, u29b⟩ := and_e u28b
  obtain ⟨u30a, u30b⟩ := and_e u29b
  obtain ⟨a__VALUES, ev__VALUES⟩ := exa_v u2a
  obtain ⟨a_NOT_RUNNING, ev_NOT_RUNNING⟩ := exa_v u4a
  obtain ⟨a_STARTING, ev_STARTING⟩ := exa_v u6a
  obtain ⟨a_RECOVERY, ev_RECOVERY⟩ := exa_v u8a
  obtain ⟨a_RUNNING, ev_RUNNING⟩ := exa_v u10a
  obtain ⟨a_PENDING_CONTROLLED_SHUTDOWN, ev_PENDING_CONTROLLED_SHUTDOWN⟩ := exa_v u12a
  obtain ⟨a_SHUTTING_DOWN, ev_SHUTTING_DOWN⟩ := exa_v u14a
  obtain ⟨a_UNKNOWN, ev_UNKNOWN⟩ := exa_v u16a
  obtain ⟨cl__VALUES, Ar__VALUES⟩ := Arr.start ev__VALUES u1a
  obtain ⟨ql__VALUES, el__VALUES⟩ := own_len ev__VALUES Ar__VALUES u3a
  obtain ⟨n, o, h1, h2, h3, _, L, rfl, ⟨rfl, N⟩, hq⟩ := rm0 l s _ hw tables_1 i0 i1 (fun n => [a__VALUES, a_NOT_RUNNING, a_STARTING, a_RECOVERY, a_RUNNING, a_PENDING_CONTROLLED_SHUTDOWN, a_SHUTTING_DOWN, a_UNKNOWN].getD n 0) ⟨(Sta.start ev__VALUES (Or.inr ⟨(hw _ (List.mem_of_getElem? (i := 2) rfl)), (hw _ (List.mem_of_getElem? (i := 8) rfl))⟩)), (Exa.start ev__VALUES u2a), (Sta.start ev_NOT_RUNNING (Or.inr ⟨(hw _ (List.mem_of_getElem? (i := 2) rfl)), (hw _ (List.mem_of_getElem? (i := 16) rfl))⟩)), (Exa.start ev_NOT_RUNNING u4a), (Sta.start ev_STARTING (Or.inr ⟨(hw _ (List.mem_of_getElem? (i := 2) rfl)), (hw _ (List.mem_of_getElem? (i := 17) rfl))⟩)), (Exa.start ev_STARTING u6a), (Sta.start ev_RECOVERY (Or.inr ⟨(hw _ (List.mem_of_getElem? (i := 2) rfl)), (hw _ (List.mem_of_getElem? (i := 18) rfl))⟩)), (Exa.start ev_RECOVERY u8a), (Sta.start ev_RUNNING (Or.inr ⟨(hw _ (List.mem_of_getElem? (i := 2) rfl)), (hw _ (List.mem_of_getElem? (i := 19) rfl))⟩)), (Exa.start ev_RUNNING u10a), (Sta.start ev_PENDING_CONTROLLED_SHUTDOWN (Or.inr ⟨(hw _ (List.mem_of_getElem? (i := 2) rfl)), (hw _ (List.mem_of_getElem? (i := 20) rfl))⟩)), (Exa.start ev_PENDING_CONTROLLED_SHUTDOWN u12a), (Sta.start ev_SHUTTING_DOWN (Or.inr ⟨(hw _ (List.mem_of_getElem? (i := 2) rfl)), (hw _ (List.mem_of_getElem? (i := 21) rfl))⟩)), (Exa.start ev_SHUTTING_DOWN u14a), (Sta.start ev_UNKNOWN (Or.inr ⟨(hw _ (List.mem_of_getElem? (i := 2) rfl)), (hw _ (List.mem_of_getElem? (i := 22) rfl))⟩)), (Exa.start ev_UNKNOWN u16a), ⟨_, Arv.start hfit Ar__VALUES ql__VALUES el__VALUES (by decide) rfl ⟨(own_elV ev__VALUES Ar__VALUES.1 ev_NOT_RUNNING u5a (i := 0) (by decide)), (own_elV ev__VALUES Ar__VALUES.1 ev_STARTING u7a (i := 1) (by decide)), (own_elV ev__VALUES Ar__VALUES.1 ev_RECOVERY u9a (i := 2) (by decide)), (own_elV ev__VALUES Ar__VALUES.1 ev_RUNNING u11a (i := 3) (by decide)), (own_elV ev__VALUES Ar__VALUES.1 ev_PENDING_CONTROLLED_SHUTDOWN u13a (i := 4) (by decide)), (own_elV ev__VALUES Ar__VALUES.1 ev_SHUTTING_DOWN u15a (i := 5) (by decide)), (own_elV ev__VALUES Ar__VALUES.1 ev_UNKNOWN u17a (i := 6) (by decide)), trivial⟩⟩, (own_fI ev_NOT_RUNNING u18a), (own_fI ev_NOT_RUNNING u19a), (own_fI ev_UNKNOWN u20a), (own_fI ev_STARTING u21a), (own_fI ev_RECOVERY u22a), (own_fI ev_RUNNING u23a), (own_fI ev_PENDING_CONTROLLED_SHUTDOWN u24a), (own_fI ev_SHUTTING_DOWN u25a), (own_fI ev_UNKNOWN u26a), (own_fI ev_PENDING_CONTROLLED_SHUTDOWN u27a), (own_fI ev_RUNNING u28a), (own_fI ev_STARTING u29a), (own_fI ev_RECOVERY u30a), (own_fI ev_SHUTTING_DOWN u30b)⟩ s.heap (own_xr _) p e ha hc hk s m _ below hf ((Spec.applies_iff_loose hf).mp happ).1 ⟨rfl, State.Warmed39.refl s, rfl⟩ trivial
  refine ⟨n, _, h1, h2, h3, hpost _ _ _ _ _ _ ⟨Cond.after_iff.mpr rfl, Cond.after_iff.mpr (eq_i res_at (Term.int_eval (1)) rfl), trivial⟩ ⟨hq.1, hq.2.1, (hq.2.2.sift fun y hy => Or.inr (N y hy)).mono (by decide) (by decide)⟩⟩
theorem main_1_1 : Claimed_1_1 := comes_1 fun _ _ _ _ _ _ h hF => ⟨h.1, hF⟩
theorem main_1_2 : Claimed_1_2 := comes_1 fun _ _ _ _ _ _ h hF => ⟨h.2.1, hF⟩
end Jvm.Pilot.@@N@@
namespace Jvm.Pilot.@@N@@
open Jvm Jvm.ClassFile Sem Op Lib Jvm.Free Jvm.Stand Jvm.Pilot.@@N@@.Jvm.D
/-! MADE BY PROGRAM (witnessworld.py) out of the Statement's table words and the real class files: 13 classes; the members and pool entries that the words name. The judged class is class 1, her method 2. -/
namespace start1
open Jvm.ClassFile
def u (s : String) : CpInfo := .utf8 (stringToUtf16 s)
/-- a pool by its gaps: so many unusable entries, then the entry; so many at the end -/
def gap : Nat → List CpInfo → List CpInfo
  | 0, r => r
  | n + 1, r => .unusable :: gap n r
def poolList (es : List (Nat × CpInfo)) (last : Nat) : List CpInfo := es.foldr (fun e r => gap e.1 (e.2 :: r)) (gap last [])
def pool (es : List (Nat × CpInfo)) (last : Nat) : Array CpInfo := ⟨poolList es last⟩
def fileOf (pool : Array CpInfo) (this : Nat) (attrs : Array Attribute := #[]) (ms : Array MethodInfo := #[]) (fl : Nat := 33) (sup : Nat := 0) (ifs : Array Nat := #[]) (fds : Array FieldInfo := #[]) : ClassFile where
  minorVersion := 0
  majorVersion := 65
  constantPool := pool
  accessFlags := fl
  thisClass := this
  superClass := sup
  interfaces := ifs
  fields := fds
  methods := ms
  attributes := attrs
def plain (name : String) (sup : Option ClassId) : Class where
  name := name
  kind := .ordinary
  loader := none
  accessFlags := 33
  super := sup
  interfaces := #[]
  cf := none
  fields := #[]
  methods := #[]
  instanceTypes := #[]
  staticTypes := #[]
  resolved := #[]
  callSites := []
  init := .initialized
  statics := none
  mirror := none

def pool0 : Array CpInfo := pool [(5, u "<init>"), (0, u "()V"), (1, .class_ 10), (1, u "java/lang/Object"), (85, u "clone"), (0, u "()Ljava/lang/Object;")] 26

def k0m0 : Method := { name := "<init>", desc := "()V", sig := { parameters := [], returnType := none }, accessFlags := 1, code := none }
def k0m1 : Method := { name := "clone", desc := "()Ljava/lang/Object;", sig := { parameters := [], returnType := some (.object "java/lang/Object") }, accessFlags := 260, code := none }
/-- java/lang/Object -/
def k0 : Class := { plain "java/lang/Object" none with
  accessFlags := 33
  interfaces := #[]
  cf := some (fileOf pool0 8 #[] #[{ accessFlags := 1, nameIndex := 5, descriptorIndex := 6, attributes := #[] }, { accessFlags := 260, nameIndex := 96, descriptorIndex := 97, attributes := #[] }] 33 0 #[] #[])
  fields := #[]
  methods := #[k0m0, k0m1]
  instanceTypes := #[]
  staticTypes := #[]
  resolved := Array.replicate 124 none
  statics := none }

def pool1 : Array CpInfo := pool [(2, .class_ 4), (1, u "java/lang/Object"), (0, u "<init>"), (0, u "()V"), (0, .fieldref 8 9), (0, .class_ 10), (0, .nameAndType 11 12), (0, u "com/example/quorumhand/quorumhand/engine/BrokerState"), (0, u "NOT_RUNNING"), (0, u "Lcom/example/quorumhand/quorumhand/engine/BrokerState;"), (0, .fieldref 8 14), (0, .nameAndType 15 12), (0, u "STARTING"), (0, .fieldref 8 17), (0, .nameAndType 18 12), (0, u "RECOVERY"), (0, .fieldref 8 20), (0, .nameAndType 21 12), (0, u "RUNNING"), (0, .fieldref 8 23), (0, .nameAndType 24 12), (0, u "PENDING_CONTROLLED_SHUTDOWN"), (0, .fieldref 8 26), (0, .nameAndType 27 12), (0, u "SHUTTING_DOWN"), (0, .fieldref 8 29), (0, .nameAndType 30 12), (0, u "UNKNOWN"), (0, .methodref 8 32), (0, .nameAndType 33 34), (0, u "of"), (0, u "(I)Lcom/example/quorumhand/quorumhand/engine/BrokerState;"), (0, .methodref 36 37), (0, .class_ 38), (0, .nameAndType 39 34), (0, u "com/example/quorumhand/quorumhand/engine/BrokerStateOfPinLaw"), (0, u "expected"), (0, .methodref 8 41), (0, .nameAndType 42 43), (0, u "value"), (0, u "()I"), (3, u "law"), (0, u "(II)Z")] 2

def k1m0 : Method := { name := "<init>", desc := "()V", sig := { parameters := [], returnType := none }, accessFlags := 1, code := none }
def k1c1 : Code := { maxStack := 2, maxLocals := 1, code := method_2_code, exceptionTable := #[], attributes := #[] }
def k1m1 : Method := { name := "expected", desc := "(I)Lcom/example/quorumhand/quorumhand/engine/BrokerState;", sig := { parameters := [.int], returnType := some (.object "com/example/quorumhand/quorumhand/engine/BrokerState") }, accessFlags := 10, code := some k1c1 }
def k1c2 : Code := { maxStack := 2, maxLocals := 4, code := code, exceptionTable := #[], attributes := #[] }
def k1m2 : Method := { name := "law", desc := "(II)Z", sig := { parameters := [.int, .int], returnType := some .boolean }, accessFlags := 9, code := some k1c2 }
/-- com/example/quorumhand/quorumhand/engine/BrokerStateOfPinLaw -/
def k1 : Class := { plain "com/example/quorumhand/quorumhand/engine/BrokerStateOfPinLaw" (some 0) with
  accessFlags := 49
  interfaces := #[]
  cf := some (fileOf pool1 36 #[] #[{ accessFlags := 1, nameIndex := 5, descriptorIndex := 6, attributes := #[] }, { accessFlags := 10, nameIndex := 39, descriptorIndex := 34, attributes := #[] }, { accessFlags := 9, nameIndex := 47, descriptorIndex := 48, attributes := #[] }] 49 2 #[] #[])
  fields := #[]
  methods := #[k1m0, k1m1, k1m2]
  instanceTypes := #[]
  staticTypes := #[]
  resolved := Array.replicate 51 none
  statics := none }

def pool2 : Array CpInfo := pool [(1, .class_ 2), (0, u "java/lang/constant/Constable"), (0, .class_ 4), (0, u "java/lang/Object")] 6

/-- java/lang/constant/Constable -/
def k2 : Class := { plain "java/lang/constant/Constable" (some 0) with
  accessFlags := 1537
  interfaces := #[]
  cf := some (fileOf pool2 1 #[] #[] 1537 3 #[] #[])
  fields := #[]
  methods := #[]
  instanceTypes := #[]
  staticTypes := #[]
  resolved := Array.replicate 11 none
  statics := none }

def pool3 : Array CpInfo := pool [(1, .class_ 2), (0, u "java/lang/Comparable"), (0, .class_ 4), (0, u "java/lang/Object")] 7

/-- java/lang/Comparable -/
def k3 : Class := { plain "java/lang/Comparable" (some 0) with
  accessFlags := 1537
  interfaces := #[]
  cf := some (fileOf pool3 1 #[] #[] 1537 3 #[] #[])
  fields := #[]
  methods := #[]
  instanceTypes := #[]
  staticTypes := #[]
  resolved := Array.replicate 12 none
  statics := none }

def pool4 : Array CpInfo := pool [(1, .class_ 2), (0, u "java/io/Serializable"), (0, .class_ 4), (0, u "java/lang/Object")] 2

/-- java/io/Serializable -/
def k4 : Class := { plain "java/io/Serializable" (some 0) with
  accessFlags := 1537
  interfaces := #[]
  cf := some (fileOf pool4 1 #[] #[] 1537 3 #[] #[])
  fields := #[]
  methods := #[]
  instanceTypes := #[]
  staticTypes := #[]
  resolved := Array.replicate 7 none
  statics := none }

def pool5 : Array CpInfo := pool [(2, .class_ 4), (1, u "java/lang/Enum"), (0, u "name"), (0, u "Ljava/lang/String;"), (2, u "ordinal"), (0, u "I"), (1, .class_ 14), (1, u "java/lang/Object"), (4, u "hash"), (86, .class_ 108), (1, u "java/lang/Enum$EnumDesc"), (2, .class_ 112), (0, u "java/lang/constant/Constable"), (0, .class_ 114), (0, u "java/lang/Comparable"), (0, .class_ 116), (0, u "java/io/Serializable")] 87

/-- java/lang/Enum -/
def k5 : Class := { plain "java/lang/Enum" (some 0) with
  accessFlags := 1057
  interfaces := #[2, 3, 4]
  cf := some (fileOf pool5 2 #[.nestMembers #[106]] #[] 1057 12 #[111, 113, 115] #[{ accessFlags := 18, nameIndex := 5, descriptorIndex := 6, attributes := #[] }, { accessFlags := 18, nameIndex := 9, descriptorIndex := 10, attributes := #[] }, { accessFlags := 2, nameIndex := 19, descriptorIndex := 10, attributes := #[] }])
  fields := #[{ name := "name", type := (.object "java/lang/String"), accessFlags := 18, slot := 0, constantValue := 0 }, { name := "ordinal", type := .int, accessFlags := 18, slot := 1, constantValue := 0 }, { name := "hash", type := .int, accessFlags := 2, slot := 2, constantValue := 0 }]
  methods := #[]
  instanceTypes := #[(.object "java/lang/String"), .int, .int]
  staticTypes := #[]
  resolved := Array.replicate 204 none
  statics := none }

def pool6 : Array CpInfo := pool [(1, .class_ 2), (0, u "com/example/quorumhand/quorumhand/engine/BrokerState"), (2, u "NOT_RUNNING"), (0, u "Lcom/example/quorumhand/quorumhand/engine/BrokerState;"), (2, u "STARTING"), (2, u "RECOVERY"), (2, u "RUNNING"), (2, u "PENDING_CONTROLLED_SHUTDOWN"), (2, u "SHUTTING_DOWN"), (0, .fieldref 1 23), (0, .nameAndType 24 6), (0, u "UNKNOWN"), (0, .fieldref 1 26), (0, .nameAndType 27 28), (0, u "$VALUES"), (0, u "[Lcom/example/quorumhand/quorumhand/engine/BrokerState;"), (0, .methodref 30 31), (0, .class_ 28), (0, .nameAndType 32 33), (0, u "clone"), (0, u "()Ljava/lang/Object;"), (1, .class_ 37), (1, u "java/lang/Enum"), (6, .fieldref 1 45), (0, .nameAndType 46 47), (0, u "value"), (0, u "I"), (0, .methodref 1 49), (0, .nameAndType 50 51), (0, u "values"), (0, u "()[Lcom/example/quorumhand/quorumhand/engine/BrokerState;"), (19, u "()I"), (0, u "of"), (0, u "(I)Lcom/example/quorumhand/quorumhand/engine/BrokerState;")] 6

def k6c0 : Code := { maxStack := 1, maxLocals := 0, code := prog_4_method_1_code, exceptionTable := #[], attributes := #[] }
def k6m0 : Method := { name := "values", desc := "()[Lcom/example/quorumhand/quorumhand/engine/BrokerState;", sig := { parameters := [], returnType := some (.array (.object "com/example/quorumhand/quorumhand/engine/BrokerState")) }, accessFlags := 9, code := some k6c0 }
def k6c1 : Code := { maxStack := 1, maxLocals := 1, code := prog_4_method_4_code, exceptionTable := #[], attributes := #[] }
def k6m1 : Method := { name := "value", desc := "()I", sig := { parameters := [], returnType := some .int }, accessFlags := 1, code := some k6c1 }
def k6c2 : Code := { maxStack := 2, maxLocals := 5, code := prog_4_method_5_code, exceptionTable := #[], attributes := #[] }
def k6m2 : Method := { name := "of", desc := "(I)Lcom/example/quorumhand/quorumhand/engine/BrokerState;", sig := { parameters := [.int], returnType := some (.object "com/example/quorumhand/quorumhand/engine/BrokerState") }, accessFlags := 9, code := some k6c2 }
/-- com/example/quorumhand/quorumhand/engine/BrokerState -/
def k6 : Class := { plain "com/example/quorumhand/quorumhand/engine/BrokerState" (some 5) with
  accessFlags := 16433
  interfaces := #[]
  cf := some (fileOf pool6 1 #[] #[{ accessFlags := 9, nameIndex := 50, descriptorIndex := 51, attributes := #[] }, { accessFlags := 1, nameIndex := 46, descriptorIndex := 71, attributes := #[] }, { accessFlags := 9, nameIndex := 72, descriptorIndex := 73, attributes := #[] }] 16433 35 #[] #[{ accessFlags := 16409, nameIndex := 5, descriptorIndex := 6, attributes := #[] }, { accessFlags := 16409, nameIndex := 9, descriptorIndex := 6, attributes := #[] }, { accessFlags := 16409, nameIndex := 12, descriptorIndex := 6, attributes := #[] }, { accessFlags := 16409, nameIndex := 15, descriptorIndex := 6, attributes := #[] }, { accessFlags := 16409, nameIndex := 18, descriptorIndex := 6, attributes := #[] }, { accessFlags := 16409, nameIndex := 21, descriptorIndex := 6, attributes := #[] }, { accessFlags := 16409, nameIndex := 24, descriptorIndex := 6, attributes := #[] }, { accessFlags := 18, nameIndex := 46, descriptorIndex := 47, attributes := #[] }, { accessFlags := 4122, nameIndex := 27, descriptorIndex := 28, attributes := #[] }])
  fields := #[{ name := "NOT_RUNNING", type := (.object "com/example/quorumhand/quorumhand/engine/BrokerState"), accessFlags := 16409, slot := 0, constantValue := 0 }, { name := "STARTING", type := (.object "com/example/quorumhand/quorumhand/engine/BrokerState"), accessFlags := 16409, slot := 1, constantValue := 0 }, { name := "RECOVERY", type := (.object "com/example/quorumhand/quorumhand/engine/BrokerState"), accessFlags := 16409, slot := 2, constantValue := 0 }, { name := "RUNNING", type := (.object "com/example/quorumhand/quorumhand/engine/BrokerState"), accessFlags := 16409, slot := 3, constantValue := 0 }, { name := "PENDING_CONTROLLED_SHUTDOWN", type := (.object "com/example/quorumhand/quorumhand/engine/BrokerState"), accessFlags := 16409, slot := 4, constantValue := 0 }, { name := "SHUTTING_DOWN", type := (.object "com/example/quorumhand/quorumhand/engine/BrokerState"), accessFlags := 16409, slot := 5, constantValue := 0 }, { name := "UNKNOWN", type := (.object "com/example/quorumhand/quorumhand/engine/BrokerState"), accessFlags := 16409, slot := 6, constantValue := 0 }, { name := "value", type := .int, accessFlags := 18, slot := 3, constantValue := 0 }, { name := "$VALUES", type := (.array (.object "com/example/quorumhand/quorumhand/engine/BrokerState")), accessFlags := 4122, slot := 7, constantValue := 0 }]
  methods := #[k6m0, k6m1, k6m2]
  instanceTypes := #[(.object "java/lang/String"), .int, .int, .int]
  staticTypes := #[(.object "com/example/quorumhand/quorumhand/engine/BrokerState"), (.object "com/example/quorumhand/quorumhand/engine/BrokerState"), (.object "com/example/quorumhand/quorumhand/engine/BrokerState"), (.object "com/example/quorumhand/quorumhand/engine/BrokerState"), (.object "com/example/quorumhand/quorumhand/engine/BrokerState"), (.object "com/example/quorumhand/quorumhand/engine/BrokerState"), (.object "com/example/quorumhand/quorumhand/engine/BrokerState"), (.array (.object "com/example/quorumhand/quorumhand/engine/BrokerState"))]
  resolved := Array.replicate 80 none
  statics := some 0 }

def pool7 : Array CpInfo := pool [(1, .class_ 2), (0, u "java/lang/Cloneable"), (0, .class_ 4), (0, u "java/lang/Object")] 2

/-- java/lang/Cloneable -/
def k7 : Class := { plain "java/lang/Cloneable" (some 0) with
  accessFlags := 1537
  interfaces := #[]
  cf := some (fileOf pool7 1 #[] #[] 1537 3 #[] #[])
  fields := #[]
  methods := #[]
  instanceTypes := #[]
  staticTypes := #[]
  resolved := Array.replicate 7 none
  statics := none }

/-- the primitive byte -/
def k8 : Class := { plain "byte" none with kind := .primitive 'B', accessFlags := 0x411 }
/-- [B -/
def k9 : Class := { plain "[B" (some 0) with kind := .array 8 .byte, interfaces := #[7, 4], accessFlags := 1041 }

/-- the primitive int -/
def k10 : Class := { plain "int" none with kind := .primitive 'I', accessFlags := 0x411 }
/-- [I -/
def k11 : Class := { plain "[I" (some 0) with kind := .array 10 .int, interfaces := #[7, 4], accessFlags := 1041 }

/-- [Lcom/example/quorumhand/quorumhand/engine/BrokerState; -/
def k12 : Class := { plain "[Lcom/example/quorumhand/quorumhand/engine/BrokerState;" (some 0) with kind := .array 6 (.object "com/example/quorumhand/quorumhand/engine/BrokerState"), interfaces := #[7, 4], accessFlags := 1041 }

def heap : Heap := #[{ cls := 6, slots := #[.ref 2, .ref 3, .ref 4, .ref 5, .ref 6, .ref 7, .ref 8, .ref 1], vm := .statics 6 },
  { cls := 12, slots := #[.ref 2, .ref 3, .ref 4, .ref 5, .ref 6, .ref 7, .ref 8], vm := .none },
  { cls := 6, slots := #[.null, .int 0, .int 0, .int 0], vm := .none },
  { cls := 6, slots := #[.null, .int 1, .int 0, .int 1], vm := .none },
  { cls := 6, slots := #[.null, .int 2, .int 0, .int 2], vm := .none },
  { cls := 6, slots := #[.null, .int 3, .int 0, .int 3], vm := .none },
  { cls := 6, slots := #[.null, .int 4, .int 0, .int 6], vm := .none },
  { cls := 6, slots := #[.null, .int 5, .int 0, .int 7], vm := .none },
  { cls := 6, slots := #[.null, .int 6, .int 0, .int 127], vm := .none }]
def classes : Array Class := #[k0, k1, k2, k3, k4, k5, k6, k7, k8, k9, k10, k11, k12]
def interned : List (Array UInt16 × Addr) := []
def slotsUsed : Nat := 43
def theMethod : MethodId := ⟨1, 2⟩
def args0 : Array Value := #[.int 5, .int 7]
def aboutOver (below : List Frame) : State where
  vm := { classes := classes, interned := interned.toArray }
  heap := heap
  slotsUsed := slotsUsed
  threads := #[{ frames := .invoking theMethod args0 :: below }]
def below0 : List Frame := [.native { method := ⟨0, 0⟩, args := #[] }]
def about1 : State := aboutOver below0
def p0 : Program := .bare "" "" ""
def e0 : Env := launch0.env 0 0 0
theorem w_frames : about1.frames = Frame.invoking theMethod args0 :: below0 := rfl
set_option maxRecDepth 65536 in
theorem w_args : argsFit about1.vm theMethod args0 = true := by decide +kernel
set_option maxRecDepth 65536 in
theorem w_heap : heapFits about1 = true := by decide +kernel
set_option maxRecDepth 65536 in
theorem w_runnable : about1.curStatus? = some .runnable := by decide +kernel
set_option maxRecDepth 65536 in
theorem w_alone : about1.alone = true := by decide +kernel
set_option maxRecDepth 65536 in
theorem w_named : about1.methodNamed? x = some theMethod := by decide +kernel
set_option maxRecDepth 65536 in
theorem w_hears : about1.hears theMethod below0 = true := by decide +kernel
set_option maxRecDepth 65536 in
theorem w_ripe : about1.ripe theMethod args0 below0 = true := by decide +kernel
theorem w_running : about1.status = .running := rfl
set_option maxRecDepth 65536 in
theorem w_room : about1.hasRoom e0.platform room_1 = true :=
  launch0.hasRoom_least _ room_1 (by decide +kernel) (by decide +kernel) (by decide +kernel) (by decide +kernel) (by decide +kernel) (by decide +kernel)
theorem allAtoms_all (ts : List Jvm.Cond) (a : Array Jvm.Value) (st : Jvm.State) : (allAtoms ts).before a st = ts.all (fun c => c.before a st) := by
  induction ts with
  | nil => rfl
  | cons c t ih =>
    show (Jvm.Cond.and c (allAtoms t)).before a st = _
    rw [Jvm.Cond.before_and, ih, List.all_cons]
def words1 : List Jvm.Cond := Jvm.Cond.code x code maxLocals ret :: tables_1
/-- a 'code' word, met by the world's own term for the bytes: nothing is compared byte by byte -/
theorem code_word {y : MethodName} {bytes : ByteArray} {mx : Nat} {rt : Option FieldType} {a : Array Value} {s : State} {m : MethodId} {meth : Method} {c : Code} (h1 : s.methodNamed? y = some m) (h2 : s.vm.method? m = some meth) (h3 : meth.code = some c) (h4 : c.code = bytes)
    (h5 : (c.maxLocals == mx && c.exceptionTable.isEmpty && decide (c.maxStack ≤ mostOperands) && decide (meth.sig.returnType = rt) && !meth.locks && decide (parseMethodDescriptor y.desc = some meth.sig)) = true) : (Jvm.Cond.code y bytes mx rt).before a s = true := by
  simp only [Bool.and_eq_true, beq_iff_eq, Bool.not_eq_true', decide_eq_true_eq] at h5
  obtain ⟨⟨⟨⟨⟨g1, g2⟩, g3⟩, g4⟩, g5⟩, g6⟩ := h5
  simp [Cond.before, Cond.holds, Cond.value, h1, h2, h3, h4, g1, g2, g3, g4, g5, g6]
def isCode : Jvm.Cond → Bool
  | .code _ _ _ _ => true
  | _ => false
theorem all_split {L : List Jvm.Cond} {P : Jvm.Cond → Bool} (h1 : L.all (fun c => isCode c || P c) = true) (h2 : ∀ c ∈ L.filter isCode, P c = true) : L.all P = true := by
  refine List.all_eq_true.mpr fun c hc => ?_
  have h := List.all_eq_true.mp h1 c hc
  rcases Bool.eq_false_or_eq_true (isCode c) with hi | hi
  · exact h2 c (List.mem_filter.mpr ⟨hc, hi⟩)
  · simpa [hi] using h
set_option maxRecDepth 65536 in
theorem w_c0 : (Jvm.Cond.code x code maxLocals ret).before args0 about1 = true := code_word (m := ⟨1, 2⟩) (meth := k1m2) (c := k1c2) (by decide +kernel) rfl rfl rfl (by decide +kernel)
set_option maxRecDepth 65536 in
theorem w_c1 : (Jvm.Cond.code ({ cls := "com/example/quorumhand/quorumhand/engine/BrokerState", name := "of", desc := "(I)Lcom/example/quorumhand/quorumhand/engine/BrokerState;" } : Jvm.MethodName) prog_4_method_5_code (5 : Nat) (Option.some (Jvm.ClassFile.FieldType.object "com/example/quorumhand/quorumhand/engine/BrokerState"))).before args0 about1 = true := code_word (m := ⟨6, 2⟩) (meth := k6m2) (c := k6c2) (by decide +kernel) rfl rfl rfl (by decide +kernel)
set_option maxRecDepth 65536 in
theorem w_c2 : (Jvm.Cond.code ({ cls := "com/example/quorumhand/quorumhand/engine/BrokerState", name := "values", desc := "()[Lcom/example/quorumhand/quorumhand/engine/BrokerState;" } : Jvm.MethodName) prog_4_method_1_code (0 : Nat) (Option.some (Jvm.ClassFile.FieldType.array (Jvm.ClassFile.FieldType.object "com/example/quorumhand/quorumhand/engine/BrokerState")))).before args0 about1 = true := code_word (m := ⟨6, 0⟩) (meth := k6m0) (c := k6c0) (by decide +kernel) rfl rfl rfl (by decide +kernel)
set_option maxRecDepth 65536 in
theorem w_c3 : (Jvm.Cond.code ({ cls := "com/example/quorumhand/quorumhand/engine/BrokerStateOfPinLaw", name := "expected", desc := "(I)Lcom/example/quorumhand/quorumhand/engine/BrokerState;" } : Jvm.MethodName) method_2_code (1 : Nat) (Option.some (Jvm.ClassFile.FieldType.object "com/example/quorumhand/quorumhand/engine/BrokerState"))).before args0 about1 = true := code_word (m := ⟨1, 1⟩) (meth := k1m1) (c := k1c1) (by decide +kernel) rfl rfl rfl (by decide +kernel)
set_option maxRecDepth 65536 in
theorem w_c4 : (Jvm.Cond.code ({ cls := "com/example/quorumhand/quorumhand/engine/BrokerState", name := "value", desc := "()I" } : Jvm.MethodName) prog_4_method_4_code (1 : Nat) (Option.some Jvm.ClassFile.FieldType.int)).before args0 about1 = true := code_word (m := ⟨6, 1⟩) (meth := k6m1) (c := k6c1) (by decide +kernel) rfl rfl rfl (by decide +kernel)
def codes1 : List Jvm.Cond := [Jvm.Cond.code x code maxLocals ret, Jvm.Cond.code ({ cls := "com/example/quorumhand/quorumhand/engine/BrokerState", name := "of", desc := "(I)Lcom/example/quorumhand/quorumhand/engine/BrokerState;" } : Jvm.MethodName) prog_4_method_5_code (5 : Nat) (Option.some (Jvm.ClassFile.FieldType.object "com/example/quorumhand/quorumhand/engine/BrokerState")), Jvm.Cond.code ({ cls := "com/example/quorumhand/quorumhand/engine/BrokerState", name := "values", desc := "()[Lcom/example/quorumhand/quorumhand/engine/BrokerState;" } : Jvm.MethodName) prog_4_method_1_code (0 : Nat) (Option.some (Jvm.ClassFile.FieldType.array (Jvm.ClassFile.FieldType.object "com/example/quorumhand/quorumhand/engine/BrokerState"))), Jvm.Cond.code ({ cls := "com/example/quorumhand/quorumhand/engine/BrokerStateOfPinLaw", name := "expected", desc := "(I)Lcom/example/quorumhand/quorumhand/engine/BrokerState;" } : Jvm.MethodName) method_2_code (1 : Nat) (Option.some (Jvm.ClassFile.FieldType.object "com/example/quorumhand/quorumhand/engine/BrokerState")), Jvm.Cond.code ({ cls := "com/example/quorumhand/quorumhand/engine/BrokerState", name := "value", desc := "()I" } : Jvm.MethodName) prog_4_method_4_code (1 : Nat) (Option.some Jvm.ClassFile.FieldType.int)]
set_option maxRecDepth 65536 in
theorem codes_eq : words1.filter isCode = codes1 := rfl
theorem w_codes : ∀ c ∈ words1.filter isCode, c.before args0 about1 = true := by
  rw [codes_eq]
  intro c hc
  simp only [codes1, List.mem_cons, List.not_mem_nil, or_false] at hc
  rcases hc with rfl | rfl | rfl | rfl | rfl
  · exact w_c0
  · exact w_c1
  · exact w_c2
  · exact w_c3
  · exact w_c4
set_option maxRecDepth 65536 in
theorem w_t1 : (words1.take 24).all (fun c => isCode c || c.before args0 about1) = true := by decide +kernel
set_option maxRecDepth 65536 in
theorem w_t2 : (words1.drop 24).all (fun c => isCode c || c.before args0 about1) = true := by decide +kernel
theorem w_tables : (allAtoms (Jvm.Cond.code x code maxLocals ret :: tables_1)).before args0 about1 = true := by
  rw [allAtoms_all]
  show words1.all (fun c => c.before args0 about1) = true
  refine all_split ?_ w_codes
  rw [← List.take_append_drop 24 words1, List.all_append, w_t1, w_t2]
  rfl
set_option maxRecDepth 65536 in
theorem w_case : (Jvm.Cond.and given_1 narrow_1).before args0 about1 = true := by decide +kernel
theorem w_applies : (headSpec (Jvm.Cond.code x code maxLocals ret :: tables_1) room_1).applies x e0.platform about1 = true :=
  (Spec.applies_iff w_frames).mpr ⟨w_running, w_runnable, w_alone, w_named, w_hears, w_ripe, w_room, w_tables⟩
theorem atStart : AtStart classFile x code maxLocals ret World_1 tables_1 room_1 Calls_1 rest_1 Pre_1 launch0 p0 e0 about1 theMethod args0 below0 :=
  ⟨lists_1, trivial, launch0.admits_env _ _ _, launch0.least_env, fairChoices_fair.cas, fairChoices_fair.clock, w_frames, w_args, w_heap, w_applies, trivial, trivial, w_case⟩
end start1
theorem witness_1 : WitnessClaimed_1 := ⟨start1.p0, start1.e0, start1.about1, start1.theMethod, start1.args0, start1.below0, start1.atStart⟩
end Jvm.Pilot.@@N@@
