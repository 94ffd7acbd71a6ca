import PyProof.Rows.All
import Wide.All
import OpenK.AllK
import Wide.FinOn
import PySem.Challenge.RW_wr0051_01
set_option Elab.async false
set_option maxRecDepth 100000
namespace Mine
open PySem PySem.W PyProof.Rows

/-! exact runs of a tree, step by step counted (for the one long statement of the top) -/
section
variable (p : Program) (w : World)
noncomputable abbrev mode (B : List Stmt) (env : Env) : Code := .body B env

noncomputable def CallRuns (m : Nat) (c : Code) (s : Shared) (r : Result) (s₁ : Shared) : Prop :=
  ∀ (k : Result → Sem Fin) (hd : Option Value) (g : Bool) (l : List Value) (B : List Stmt) (env : Env) (pos q : Pos),
    segGo treeTable p w 11 (some (.ref 6)) 1 m s ⟨.call c hd g l k, .body B env, pos, [topFrame q]⟩ = some (s₁, ⟨k r, .body B env, pos, [topFrame q]⟩)

inductive Ex {α : Type} : Nat → Sem α → Shared → Pos → α → Shared → Pos → Prop
  | pure {a s q} : Ex 0 (.pure a) s q a s q
  | rule {n t k s q a s' q'} : Ex n (k ()) s q a s' q' → Ex (n + 1) (.rule t k) s q a s' q'
  | at {n u k s q a s' q'} : Ex n (k ()) s u a s' q' → Ex (n + 1) (.at u k) s q a s' q'
  | point {n l k s q a s' q'} : Ex n (k ()) s q a s' q' → Ex (n + 1) (.point l k) s q a s' q'
  | ask {n k s q a s' q'} : Ex n (k ⟨p, w.params⟩) s q a s' q' → Ex (n + 1) (.ask k) s q a s' q'
  | fresh {n k a q' q h g d t os s'} : Ex n (k t) ⟨h, g, d, t + 1, os⟩ q a s' q' → Ex (n + 1) (.fresh k) ⟨h, g, d, t, os⟩ q a s' q'
  | load {n b u k o a q' q s' h g d t os} : h.get? b = some o → Ex n (k o) ⟨h, g, d, t, os⟩ q a s' q' → Ex (n + 1) (.load b u k) ⟨h, g, d, t, os⟩ q a s' q'
  | update {n b u f k o a q' q s' h g d t os} : h.get? b = some o → Nat.ble 11 b = true → Ex n (k ()) ⟨h.update b f, g, d, t, os⟩ q a s' q' → Ex (n + 1) (.update b u f k) ⟨h, g, d, t, os⟩ q a s' q'
  | alloc {n o k a q' q s' h g d t os} : Ex n (k h.objs.size) ⟨h.push o, g, d, t, os⟩ q a s' q' → Ex (n + 1) (.alloc o k) ⟨h, g, d, t, os⟩ q a s' q'
  | call {m n c hd g l k r a q' q s s₁ s'} : CallRuns p w m c s r s₁ → Ex n (k r) s₁ q a s' q' → Ex (m + n) (.call c hd g l k) s q a s' q'

variable {p w}
theorem segGo_add {m n : Nat} {s s₁ : Shared} {t t₁ : Thread} {r : Option (Shared × Thread)} : segGo treeTable p w 11 (some (.ref 6)) 1 m s t = some (s₁, t₁) → segGo treeTable p w 11 (some (.ref 6)) 1 n s₁ t₁ = r →
    segGo treeTable p w 11 (some (.ref 6)) 1 (m + n) s t = r := by
  induction m generalizing s t with
  | zero =>
    intro h k
    obtain ⟨rfl, rfl⟩ : s = s₁ ∧ t = t₁ := by simpa [segGo] using h
    rw [Nat.zero_add]; exact k
  | succ m ih =>
    intro h k
    rw [Nat.add_right_comm]
    unfold segGo at h ⊢
    cases he : endAt 1 t with
    | some f => rw [he] at h; cases h
    | none =>
      rw [he] at h
      cases hk : stepOk 11 (some (.ref 6)) t with
      | false => rw [hk] at h; cases h
      | true =>
        rw [hk] at h
        cases hs : step (denote treeTable) p w s t with
        | halt o s₂ => rw [hs] at h; cases h
        | go s₂ t₂ => rw [hs] at h; exact ih h k

theorem Ex.run {α : Type} {n : Nat} {m : Sem α} {s s' : Shared} {q q' : Pos} {a : α} (x : Ex p w n m s q a s' q') :
    ∀ (K : α → Sem Fin) (B : List Stmt) (env : Env) (z : Pos), segGo treeTable p w 11 (some (.ref 6)) 1 n s ⟨m.wrap K deadEnd id id, .body B env, q, [topFrame z]⟩ = some (s', ⟨K a, .body B env, q', [topFrame z]⟩) := by
  induction x with
  | pure => intro K B env z; rfl
  | rule _ ih => intro K B env z; exact ih K B env z
  | «at» _ ih => intro K B env z; exact ih K B env z
  | point _ ih => intro K B env z; exact ih K B env z
  | ask _ ih => intro K B env z; exact ih K B env z
  | fresh _ ih => intro K B env z; exact ih K B env z
  | @load n b u k o a q' q s' h g d t os ho _ ih =>
    intro K B env z
    show (match step (denote treeTable) p w ⟨h, g, d, t, os⟩ ⟨.load b u fun x => (k x).wrap K deadEnd id id, .body B env, q, [topFrame z]⟩ with | .go s' t' => segGo treeTable p w 11 (some (.ref 6)) 1 n s' t' | .halt _ _ => none) = _
    simp only [step, ho]
    exact ih K B env z
  | @update n b u f k o a q' q s' h g d t os ho hb _ ih =>
    intro K B env z
    show (match (true && (Nat.ble 11 b || b == mainNs || b == cStatics || some (Value.ref 6) == some (.ref b))) with | false => none | true => match step (denote treeTable) p w ⟨h, g, d, t, os⟩ ⟨.update b u f fun x => (k x).wrap K deadEnd id id, .body B env, q, [topFrame z]⟩ with | .go s' t' => segGo treeTable p w 11 (some (.ref 6)) 1 n s' t' | .halt _ _ => none) = _
    rw [hb]
    simp only [Bool.true_or, Bool.true_and, step, ho, Option.isSome_some, if_true]
    exact ih K B env z
  | alloc _ ih => intro K B env z; exact ih K B env z
  | @call m n c hd g l k r a q' q s s₁ s' hc _ ih =>
    intro K B env z
    exact segGo_add (hc (fun x => (k x).wrap K deadEnd id id) hd g l B env q z) (ih K B env z)

theorem Ex.wrap {α β : Type} {n₁ n₂ : Nat} {m : Sem α} {K : α → Sem β} {H : Value → Sem β} {gd : Bool → Bool} {lv : List Value → List Value} {s s₁ s₂ : Shared} {q q₁ q₂ : Pos} {a : α} {b : β}
    (x : Ex p w n₁ m s q a s₁ q₁) (y : Ex p w n₂ (K a) s₁ q₁ b s₂ q₂) : Ex p w (n₁ + n₂) (m.wrap K H gd lv) s q b s₂ q₂ := by
  induction x with
  | pure => rw [Nat.zero_add]; exact y
  | rule _ ih => rw [Nat.add_right_comm]; exact .rule (ih y)
  | «at» _ ih => rw [Nat.add_right_comm]; exact .at (ih y)
  | point _ ih => rw [Nat.add_right_comm]; exact .point (ih y)
  | ask _ ih => rw [Nat.add_right_comm]; exact .ask (ih y)
  | fresh _ ih => rw [Nat.add_right_comm]; exact .fresh (ih y)
  | load ho _ ih => rw [Nat.add_right_comm]; exact .load ho (ih y)
  | update ho hb _ ih => rw [Nat.add_right_comm]; exact .update ho hb (ih y)
  | alloc _ ih => rw [Nat.add_right_comm]; exact .alloc (ih y)
  | call hc _ ih => rw [Nat.add_assoc]; exact .call hc (ih y)
theorem Ex.bind {α β : Type} {n₁ n₂ : Nat} {m : Sem α} {f : α → Sem β} {s s₁ s₂ : Shared} {q q₁ q₂ : Pos} {a : α} {b : β}
    (x : Ex p w n₁ m s q a s₁ q₁) (y : Ex p w n₂ (f a) s₁ q₁ b s₂ q₂) : Ex p w (n₁ + n₂) (m >>= f) s q b s₂ q₂ := by
  rw [Sem.bind_eq_wrap']; exact x.wrap y
theorem Ex.keep {α : Type} {n : Nat} {m : Sem α} {vs : List Value} {s s' : Shared} {q q' : Pos} {a : α} (x : Ex p w n m s q a s' q') : Ex p w n (m.keep vs) s q a s' q' := by
  rw [Sem.keep_eq_wrap]; exact x.wrap .pure
theorem Ex.onRaise {α : Type} {n : Nat} {m : Sem α} {h : Value → Sem Unit} {s s' : Shared} {q q' : Pos} {a : α} (x : Ex p w n m s q a s' q') : Ex p w n (m.onRaise h) s q a s' q' := by
  rw [Sem.onRaise_eq_wrap]; exact x.wrap .pure
theorem Ex.tryCatch {α : Type} {n : Nat} {m : Sem α} {h : Value → Sem α} {s s' : Shared} {q q' : Pos} {a : α} (x : Ex p w n m s q a s' q') : Ex p w n (m.tryCatch h) s q a s' q' := by
  rw [Sem.tryCatch_eq_wrap]; exact x.wrap .pure
theorem Ex.holding {α : Type} {n : Nat} {m : Sem α} {vs : List Value} {s s' : Shared} {q q' : Pos} {a : α} (x : Ex p w n m s q a s' q') : Ex p w n (holding vs m) s q a s' q' := by
  unfold PySem.holding
  split
  · exact x
  · exact x.keep
end

end Mine
set_option maxRecDepth 100000
namespace Mine
open PySem PySem.W PyProof.Rows
variable {p : Program} {w : World}
theorem hash_call {i : Int} {tk t : Tok} {h : Heap} {gs : Array GenState} {d : Drawn} {os : OsState} :
    CallRuns p w 4 (.call (.builtin "int.__hash__") ⟨[.int i tk], []⟩) ⟨h, gs, d, t, os⟩ (.ok (.ret (.int (rawHash i) t))) ⟨h, gs, d, t + 1, os⟩ := by
  intro k hd g l B env pos q

  kernel_rfl
end Mine
set_option maxRecDepth 100000
namespace Mine
open PySem PySem.W PyProof.Rows
variable {p : Program} {w : World}
theorem spec_hash {i : Int} {tk : Tok} : specialOf (.int i tk) "__hash__" = .pure (some (.builtin "int.__hash__")) := by kernel_rfl
theorem bind_hash {i : Int} {tk : Tok} : bindSpecial (.builtin "int.__hash__") (.int i tk) = .pure (.builtin "int.__hash__", [.int i tk]) := by kernel_rfl
theorem reduced_hash {i : Int} : pyHashByItsType.reduced (rawHash i) = .pure (hashInt i) := by
  have hr := rawHash_range i
  unfold pyHashByItsType.reduced
  show (if (decide (-(2 : Int) ^ 63 ≤ rawHash i) && decide (rawHash i < 2 ^ 63)) = true then _ else _) = _
  rw [if_pos (by rw [decide_eq_true hr.1, decide_eq_true hr.2]; rfl)]
  rfl

theorem Ex_special {i : Int} {tk t : Tok} {h : Heap} {gs : Array GenState} {d : Drawn} {os : OsState} {q : Pos} {r : Sem Value} :
    Ex p w 5 (callSpecialIfBoundUnlessNone? (.int i tk) "__hash__" r) ⟨h, gs, d, t, os⟩ q (some (.int (rawHash i) t)) ⟨h, gs, d, t + 1, os⟩ q := by
  unfold callSpecialIfBoundUnlessNone?
  refine Ex.holding (?_ : Ex p w (1 + 4) _ _ _ _ _ _)
  refine Ex.bind (a := some (.builtin "int.__hash__", [.int i tk])) (s₁ := ⟨h, gs, d, t, os⟩) (q₁ := q) ?_ ?_
  · unfold bindSpecialIfBound?
    refine (?_ : Ex p w (0 + 1) _ _ _ _ _ _)
    rw [spec_hash]
    refine Ex.bind .pure ?_
    show Ex p w 1 (Sem.ask fun S => _) _ _ _ _ _
    refine Ex.ask ?_
    show Ex p w 0 (if w.params.followText "special-get-raises" = true then _ else _) _ _ _ _ _
    have hb : Ex p w 0 ((bindSpecial (.builtin "int.__hash__") (.int i tk)).bind fun x => Sem.pure (some x)) ⟨h, gs, d, t, os⟩ q (some (Value.builtin "int.__hash__", [Value.int i tk])) ⟨h, gs, d, t, os⟩ q := by
      rw [bind_hash]; exact .pure
    cases w.params.followText "special-get-raises" with
    | true => exact hb
    | false => rw [if_neg Bool.false_ne_true]; exact Ex.tryCatch hb
  · show Ex p w (4 + 0) (call (.builtin "int.__hash__") [.int i tk] >>= fun x => pure (some x)) _ _ _ _ _
    refine Ex.bind (a := .int (rawHash i) t) (s₁ := ⟨h, gs, d, t + 1, os⟩) (q₁ := q) ?_ .pure
    exact Ex.call (m := 4) (n := 0) hash_call .pure
theorem Ex_pyHash {i : Int} {tk t : Tok} {h : Heap} {gs : Array GenState} {d : Drawn} {os : OsState} {q : Pos} :
    Ex p w 5 (pyHash (.int i tk)) ⟨h, gs, d, t, os⟩ q (hashInt i) ⟨h, gs, d, t + 1, os⟩ q := by
  show Ex p w (0 + (0 + (0 + (5 + 0)))) (pyHashByItsType (.int i tk)) _ _ _ _ _
  unfold pyHashByItsType
  refine Ex.bind (a := ()) .pure ?_
  rw [spec_hash]
  refine Ex.bind .pure ?_
  show Ex p w _ (Sem.pure _ >>= _) _ _ _ _ _
  refine Ex.bind .pure ?_
  refine Ex.bind Ex_special ?_
  show Ex p w 0 (pyHashByItsType.reduced (rawHash i)) _ _ _ _ _
  rw [reduced_hash]
  exact .pure
end Mine
set_option maxRecDepth 100000
namespace Mine
open PySem PySem.W PyProof.Rows
variable {p : Program} {w : World} {h : Heap} {gs : Array GenState} {dr : Drawn} {os : OsState} {q : Pos} {i : Int} {tk t : Tok} {d a : Addr} {es : List DictEntry} {n : Nat} {v : Value}

theorem Ex_entries {u : Option Value} (ho : h.get? d = some (dictOf es n)) : Ex p w 1 (dictEntries d u) ⟨h, gs, dr, t, os⟩ q es.toArray ⟨h, gs, dr, t, os⟩ q :=
  Ex.bind (n₁ := 1) (n₂ := 0) (m := loadPart d u) (Ex.load ho .pure) .pure
theorem Ex_epoch {u : Option Value} (ho : h.get? d = some (dictOf es n)) : Ex p w 1 (dictEpoch d u) ⟨h, gs, dr, t, os⟩ q n ⟨h, gs, dr, t, os⟩ q :=
  Ex.bind (n₁ := 1) (n₂ := 0) (m := loadPart d u) (Ex.load ho .pure) .pure

theorem places_none (hm : ∀ e ∈ es, e.hash ≠ i) : placesWithHash es.toArray.size (fun j => es.toArray[j]?.map (·.hash)) i = [] := by
  unfold placesWithHash
  rw [List.filter_eq_nil_iff]
  intro j _ hj
  simp only [List.getElem?_toArray, beq_iff_eq, Option.map_eq_some_iff] at hj
  obtain ⟨e, he, rfl⟩ := hj
  exact hm e (List.mem_of_getElem? he) rfl

theorem Ex_find (ho : h.get? d = some (dictOf es n)) (hm : ∀ e ∈ es, e.hash ≠ hashInt i) :
    Ex p w 1 (dictFind d (.int i tk) (hashInt i)) ⟨h, gs, dr, t, os⟩ q none ⟨h, gs, dr, t, os⟩ q := by
  unfold dictFind
  refine Ex.holding (?_ : Ex p w (1 + 0) _ _ _ _ _ _)
  refine Ex.bind (Ex_entries ho) ?_
  dsimp only
  rw [places_none hm]
  exact .pure

theorem Ex_grow (ho : h.get? d = some (dictOf es n)) (hz : es.length < 10000) (hd : Nat.ble 11 d = true) (e : DictEntry) (u : Option Value) :
    Ex p w 3 (updateDictKeys d (·.push e) u) ⟨h, gs, dr, t, os⟩ q () ⟨h.update d (Obj.mapDictKeys (·.push e)), gs, dr, t, os⟩ q := by
  unfold updateDictKeys
  refine (?_ : Ex p w (1 + (1 + 1)) _ _ _ _ _ _)
  refine Ex.bind (m := loadPart d u) (n₁ := 1) (Ex.load ho .pure) ?_
  dsimp only
  refine Ex.bind (m := updatePart d u _) (n₁ := 1) (Ex.update ho hd .pure) ?_
  unfold lookBehind
  have hn : (h.update d (Obj.mapDictKeys (·.push e))).get? d = some (dictOf (es ++ [e]) (n + 1)) := by
    have z := Heap.get?_update_self (Obj.mapDictKeys (·.push e)) ho rfl
    rw [z]
    show some (({ cls := .type "dict", data := .dict (es.toArray.push e) (n + 1) } : Obj)) = _
    rw [List.push_toArray]
  refine (?_ : Ex p w (1 + 0) _ _ _ _ _ _)
  refine Ex.bind (m := loadPart d u) (n₁ := 1) (Ex.load hn .pure) ?_
  have hl : (dictOf (es ++ [e]) (n + 1)).data.pastItsLine = none := pastItsLine_dict (by
    rw [List.size_toArray, List.length_append]; show es.length + 1 ≤ 2 ^ 24 + 1; omega)
  rw [hl]
  exact .pure

theorem Ex_set (ho : h.get? d = some (dictOf es n)) (hm : ∀ e ∈ es, e.hash ≠ hashInt i) (hz : es.length < 10000) (hd : Nat.ble 11 d = true) :
    Ex p w 10 (dictSet d (.int i tk) v) ⟨h, gs, dr, t, os⟩ q () ⟨h.update d (Obj.mapDictKeys (·.push ⟨hashInt i, .int i tk, v⟩)), gs, dr, t + 1, os⟩ q := by
  unfold dictSet
  refine Ex.holding (?_ : Ex p w (5 + (1 + (1 + 3))) _ _ _ _ _ _)
  refine Ex.bind Ex_pyHash ?_
  unfold dictSetHashed
  refine Ex.holding ?_
  refine Ex.bind (Ex_find ho hm) ?_
  dsimp only
  refine Ex.bind (m := rule _) (n₁ := 1) (Ex.rule .pure) ?_
  exact Ex_grow ho hz hd _ _
end Mine
set_option maxRecDepth 100000
namespace Mine
open PySem PySem.W PyProof.Rows

noncomputable def hp (L₀ : List Obj) (life : Life) (L : List Obj) : Heap := ⟨(L₀ ++ L).toArray, life⟩
section
variable {L₀ L : List Obj} {life : Life} {j : Nat} {es : List DictEntry} {n : Nat}
theorem hp_get (h0 : L₀.length = 40) (e : L[j]? = some (dictOf es n)) : (hp L₀ life L).get? (40 + j) = some (dictOf es n) := by
  refine Heap.get?_some_iff.mpr ⟨?_, rfl⟩
  show (L₀ ++ L).toArray[40 + j]? = _
  rw [List.getElem?_toArray, List.getElem?_append_right (by omega), h0, Nat.add_sub_cancel_left, e]
theorem hp_push (o : Obj) : (hp L₀ life L).push o = hp L₀ life (L ++ [o]) := by
  show Heap.mk ((L₀ ++ L).toArray.push o) life = Heap.mk _ life
  rw [List.push_toArray, List.append_assoc]
theorem hp_size (h0 : L₀.length = 40) : (hp L₀ life L).objs.size = 40 + L.length := by
  show (L₀ ++ L).toArray.size = _
  rw [List.size_toArray, List.length_append, h0]
theorem hp_upd (h0 : L₀.length = 40) (f : Obj → Obj) : (hp L₀ life L).update (40 + j) f = hp L₀ life (L.modify j f) := by
  show Heap.mk ((L₀ ++ L).toArray.modify (40 + j) f) life = Heap.mk _ life
  congr 1
  apply Array.ext_getElem?
  intro i
  rw [Array.getElem?_modify, List.getElem?_toArray, List.getElem?_toArray]
  by_cases hi : i < 40
  · rw [List.getElem?_append_left (by omega), List.getElem?_append_left (by omega), if_neg (by omega)]
  · rw [List.getElem?_append_right (by omega), List.getElem?_append_right (by omega), List.getElem?_modify, h0]
    by_cases hj : 40 + j = i
    · have hj' : j = i - 40 := by omega
      simp only [if_pos hj, if_pos hj']; cases L[i - 40]? <;> rfl
    · have hj' : ¬ j = i - 40 := by omega
      simp only [if_neg hj, if_neg hj']; cases L[i - 40]? <;> rfl
theorem modify_last (M : List Obj) (o : Obj) (f : Obj → Obj) : (M ++ [o]).modify M.length f = M ++ [f o] := by
  induction M with
  | nil => rfl
  | cons x M ih => rw [List.cons_append, List.length_cons, List.modify_succ_cons, ih, List.cons_append]
theorem get_last (M : List Obj) (o : Obj) : (M ++ [o])[M.length]? = some o := by simp
theorem push_dict (e : DictEntry) : Obj.mapDictKeys (·.push e) (dictOf es n) = dictOf (es ++ [e]) (n + 1) := by
  show ({ cls := .type "dict", data := .dict (es.toArray.push e) (n + 1) } : Obj) = _
  rw [List.push_toArray]
end

noncomputable def ents : List (Int × Str) → Nat → List DictEntry
  | [], _ => []
  | x :: r, t => ⟨hashInt x.1, .int x.1 t, .str x.2 (t + 1)⟩ :: ents r (t + 3)
theorem ents_hash : ∀ (r : List (Int × Str)) (t : Nat), (ents r t).map (·.hash) = r.map fun x => hashInt x.1
  | [], _ => rfl
  | _ :: r, t => by unfold ents; rw [List.map_cons, List.map_cons, ents_hash r]
theorem ents_length : ∀ (r : List (Int × Str)) (t : Nat), (ents r t).length = r.length
  | [], _ => rfl
  | _ :: r, t => by unfold ents; rw [List.length_cons, List.length_cons, ents_length r]

variable {p : Program} {w : World} {gs : Array GenState} {dr : Drawn} {os : OsState} {pos : Pos} {L₀ : List Obj} {life : Life}
noncomputable def kS (x : Int × Str) : Sem Value := mkInt x.1
noncomputable def vS (pos : Pos) (x : Int × Str) : Sem Value := do let v ← mkText x.2; standAt pos; pure v
noncomputable def st (L₀ : List Obj) (life : Life) (gs : Array GenState) (dr : Drawn) (os : OsState) (L : List Obj) (t : Nat) : Shared := ⟨hp L₀ life L, gs, dr, t, os⟩

noncomputable def apart (es : List DictEntry) (r : List (Int × Str)) : Prop := (es.map (·.hash) ++ r.map fun x => hashInt x.1).Nodup
theorem apart.head {es : List DictEntry} {x : Int × Str} {r : List (Int × Str)} (h : apart es (x :: r)) : ∀ e ∈ es, e.hash ≠ hashInt x.1 := by
  intro e he q
  unfold apart at h
  rw [List.nodup_append] at h
  exact h.2.2 _ (List.mem_map_of_mem he) _ (by rw [List.map_cons]; exact .head _) q
theorem apart.next {es : List DictEntry} {x : Int × Str} {r : List (Int × Str)} (h : apart es (x :: r)) (e : DictEntry) (he : e.hash = hashInt x.1) : apart (es ++ [e]) r := by
  unfold apart at h ⊢
  rw [List.map_append, List.append_assoc]
  simpa [he] using h

theorem Ex_pairs {M : List Obj} (h0 : L₀.length = 40) (g : Sem Value × Sem Value → PUnit → Sem (ForInStep PUnit))
    (hg : ∀ (x : Int × Str) (es : List DictEntry) (n t : Nat), (∀ e ∈ es, e.hash ≠ hashInt x.1) → es.length < 10000 →
      Ex p w 13 (g (kS x, vS pos x) ()) (st L₀ life gs dr os (M ++ [dictOf es n]) t) pos (.yield ()) (st L₀ life gs dr os (M ++ [dictOf (es ++ [⟨hashInt x.1, .int x.1 t, .str x.2 (t + 1)⟩]) (n + 1)]) (t + 3)) pos) :
    ∀ (r : List (Int × Str)) (es : List DictEntry) (n t : Nat), apart es r → es.length + r.length < 10000 →
      Ex p w (13 * r.length) (forIn (r.map fun x => (kS x, vS pos x)) () g) (st L₀ life gs dr os (M ++ [dictOf es n]) t) pos () (st L₀ life gs dr os (M ++ [dictOf (es ++ ents r t) (n + r.length)]) (t + 3 * r.length)) pos
  | [], es, n, t, _, _ => by
    show Ex p w 0 (Sem.pure ()) _ _ _ _ _
    rw [show es ++ ents [] t = es from List.append_nil _]
    exact .pure
  | x :: r, es, n, t, ha, hz => by
    rw [List.map_cons, List.forIn_cons, List.length_cons] at *
    rw [show 13 * (r.length + 1) = 13 + 13 * r.length by omega]
    refine Ex.bind (hg x es n t ha.head (by omega)) ?_
    have z := Ex_pairs h0 g hg r (es ++ [⟨hashInt x.1, .int x.1 t, .str x.2 (t + 1)⟩]) (n + 1) (t + 3) (ha.next _ rfl) (by rw [List.length_append]; simp only [List.length_cons, List.length_nil]; omega)
    rw [List.append_assoc, show n + 1 + r.length = n + (r.length + 1) by omega, show t + 3 + 3 * r.length = t + 3 * (r.length + 1) by omega] at z
    exact z

theorem Ex_pair {M : List Obj} (h0 : L₀.length = 40) {d : Addr} (hd : d = 40 + M.length) (x : Int × Str) (es : List DictEntry) (n t : Nat) (hm : ∀ e ∈ es, e.hash ≠ hashInt x.1) (hz : es.length < 10000) {α : Type} {f : Sem α} {a : α} {n' : Nat} {s' : Shared}
    (hf : Ex p w n' f (st L₀ life gs dr os (M ++ [dictOf (es ++ [⟨hashInt x.1, .int x.1 t, .str x.2 (t + 1)⟩]) (n + 1)]) (t + 3)) pos a s' pos) :
    Ex p w (13 + n') (do let kv ← kS x; let vv ← holding [kv] (vS pos x); holding [kv, vv] (dictSet d kv vv); f) (st L₀ life gs dr os (M ++ [dictOf es n]) t) pos a s' pos := by
  subst hd
  rw [show 13 + n' = 1 + (2 + (10 + n')) by omega]
  refine Ex.bind (a := .int x.1 t) (s₁ := st L₀ life gs dr os (M ++ [dictOf es n]) (t + 1)) (q₁ := pos) (Ex.fresh .pure) ?_
  refine Ex.bind (a := .str x.2 (t + 1)) (s₁ := st L₀ life gs dr os (M ++ [dictOf es n]) (t + 2)) (q₁ := pos) (Ex.holding (Ex.fresh (.at .pure))) ?_
  have z := Ex_set (p := p) (w := w) (gs := gs) (dr := dr) (os := os) (q := pos) (t := t + 2) (tk := t) (v := .str x.2 (t + 1)) (i := x.1) (hp_get (life := life) h0 (get_last M (dictOf es n))) hm hz (Nat.ble_eq_true_of_le (by omega))
  rw [hp_upd h0, modify_last, push_dict] at z
  exact Ex.bind (Ex.holding z) hf
end Mine
set_option maxRecDepth 100000
namespace Mine
open PySem PySem.W PyProof.Rows
variable {p : Program} {w : World} {gs : Array GenState} {dr : Drawn} {os : OsState} {pos : Pos} {L₀ : List Obj} {life : Life}

noncomputable def prs (pos : Pos) (r : List (Int × Str)) : List (Sem Value × Sem Value) := r.map fun x => (kS x, vS pos x)

theorem Ex_alloc {o : Obj} {L : List Obj} {t : Nat} (h0 : L₀.length = 40) : Ex p w 1 (alloc o) (st L₀ life gs dr os L t) pos (40 + L.length) (st L₀ life gs dr os (L ++ [o]) t) pos := by
  have z : Ex p w 1 (Sem.alloc o .pure) (st L₀ life gs dr os L t) pos ((hp L₀ life L).objs.size) ⟨(hp L₀ life L).push o, gs, dr, t, os⟩ pos := Ex.alloc .pure
  rw [hp_size h0, hp_push] at z
  exact z

theorem Ex_sub {r : List (Int × Str)} {L : List Obj} {t : Nat} (h0 : L₀.length = 40) (hr : 15 < r.length) (hr' : r.length < 1000) (ha : apart [] r) :
    Ex p w (2 + 13 * r.length) (subDict (prs pos r)) (st L₀ life gs dr os L t) pos (40 + L.length) (st L₀ life gs dr os (L ++ [dictOf (ents r t) r.length]) (t + 3 * r.length)) pos := by
  unfold subDict
  rw [show 2 + 13 * r.length = 1 + ((1 + 13 * r.length) + 0) by omega]
  refine Ex.bind (Ex_alloc h0) ?_
  have hl : ¬ (prs pos r).length ≤ 15 := by unfold prs; rw [List.length_map]; omega
  refine Ex.bind (a := ()) (Ex.holding ?_) .pure
  rw [if_neg hl]
  refine Ex.bind (m := rule _) (n₁ := 1) (Ex.rule .pure) ?_
  rw [show dictOf (ents r t) r.length = dictOf ([] ++ ents r t) (0 + r.length) by rw [List.nil_append, Nat.zero_add]]
  refine Ex.bind (n₁ := 13 * r.length) (n₂ := 0) (a := ()) ?_ .pure
  refine Ex_pairs h0 _ ?_ r [] 0 t ha (by simp only [List.length_nil]; omega)
  intro x es n t hm hz
  exact Ex_pair (n' := 0) (f := pure (ForInStep.yield ())) h0 rfl x es n t hm hz .pure

theorem Ex_isDict {a : Addr} {es : List DictEntry} {n t : Nat} {h : Heap} {q : Pos} (ho : h.get? a = some (dictOf es n)) : Ex p w 1 (isInstance (.ref a) (.type "dict")) ⟨h, gs, dr, t, os⟩ q true ⟨h, gs, dr, t, os⟩ q := by
  unfold isInstance
  refine (Ex.bind (n₁ := 1) (n₂ := 0) (a := .type "dict") (s₁ := ⟨h, gs, dr, t, os⟩) (q₁ := q) ?_ ?_)
  · exact Ex.bind (n₁ := 1) (n₂ := 0) (m := loadPart a (some headPart)) (Ex.load ho .pure) .pure
  · have e : isSubtype (.type "dict") (.type "dict") = .pure true := by kernel_rfl
    rw [e]; exact .pure
theorem Ex_specIter {a : Addr} {es : List DictEntry} {n t : Nat} {h : Heap} {q : Pos} (ho : h.get? a = some (dictOf es n)) : Ex p w 1 (specialOf (.ref a) "__iter__") ⟨h, gs, dr, t, os⟩ q (some (.builtin "dict.__iter__")) ⟨h, gs, dr, t, os⟩ q := by
  unfold specialOf
  refine (Ex.bind (n₁ := 1) (n₂ := 0) (a := .type "dict") (s₁ := ⟨h, gs, dr, t, os⟩) (q₁ := q) ?_ ?_)
  · exact Ex.bind (n₁ := 1) (n₂ := 0) (m := loadPart a (some headPart)) (Ex.load ho .pure) .pure
  · have e : typeLookup (.type "dict") "__iter__" = .pure (some (.builtin "dict.__iter__")) := by kernel_rfl
    rw [e]; exact .pure

noncomputable def intEntry (e : DictEntry) : Prop := ∃ i tk, e.key = .int i tk ∧ e.hash = hashInt i
theorem Ex_put {d : Addr} {es : List DictEntry} {n t : Nat} {h : Heap} {q : Pos} {e : DictEntry} (ho : h.get? d = some (dictOf es n)) (hd : Nat.ble 11 d = true) (he : intEntry e) (hm : ∀ x ∈ es, x.hash ≠ e.hash) (hz : es.length < 10000) :
    Ex p w 4 (dictPut d e.hash e.key e.val) ⟨h, gs, dr, t, os⟩ q () ⟨h.update d (Obj.mapDictKeys (·.push e)), gs, dr, t, os⟩ q := by
  obtain ⟨hs, k, v⟩ := e
  obtain ⟨i, tk, rfl, rfl⟩ := he
  unfold dictPut
  refine (?_ : Ex p w (1 + 3) _ _ _ _ _ _)
  refine Ex.bind (Ex_find ho hm) ?_
  exact Ex_grow ho hz hd _ _

theorem Ex_mergeLoop {N : List Obj} {fs : List DictEntry} {j k : Nat} (h0 : L₀.length = 40) (hN : N[j]? = some (dictOf fs k)) (hf : ∀ e ∈ fs, intEntry e)
    (g : Nat → PUnit → Sem (ForInStep PUnit))
    (hg : ∀ (i : Nat) (e : DictEntry) (es : List DictEntry) (n t : Nat), fs[i]? = some e → (∀ x ∈ es, x.hash ≠ e.hash) → es.length < 10000 →
      Ex p w 6 (g i ()) (st L₀ life gs dr os (dictOf es n :: N) t) pos (.yield ()) (st L₀ life gs dr os (dictOf (es ++ [e]) (n + 1) :: N) t) pos) :
    ∀ (m i : Nat) (es : List DictEntry) (n t : Nat), i + m = fs.length → (es.map (·.hash) ++ (fs.drop i).map (·.hash)).Nodup → es.length + m < 10000 →
      Ex p w (6 * m) (forIn (List.range' i m) () g) (st L₀ life gs dr os (dictOf es n :: N) t) pos () (st L₀ life gs dr os (dictOf (es ++ fs.drop i) (n + m) :: N) t) pos
  | 0, i, es, n, t, hi, _, _ => by
    rw [List.drop_of_length_le (by omega), List.append_nil]
    exact .pure
  | m + 1, i, es, n, t, hi, hd, hz => by
    have hlt : i < fs.length := by omega
    rw [List.drop_eq_getElem_cons hlt] at hd ⊢
    rw [List.range'_succ, List.forIn_cons, show 6 * (m + 1) = 6 + 6 * m by omega]
    have hm : ∀ x ∈ es, x.hash ≠ (fs[i]).hash := by
      intro x hx q
      rw [List.nodup_append] at hd
      exact hd.2.2 _ (List.mem_map_of_mem hx) _ (by rw [List.map_cons]; exact .head _) q
    refine Ex.bind (hg i fs[i] es n t (List.getElem?_eq_getElem hlt) hm (by omega)) ?_
    have z := Ex_mergeLoop h0 hN hf g hg m (i + 1) (es ++ [fs[i]]) (n + 1) t (by omega) (by rw [List.map_append, List.append_assoc]; exact hd) (by rw [List.length_append]; simp only [List.length_cons, List.length_nil]; omega)
    rw [List.append_assoc, show n + 1 + m = n + (m + 1) by omega] at z
    exact z

theorem Ex_merge {N : List Obj} {es fs : List DictEntry} {j n k t : Nat} (h0 : L₀.length = 40) (hN : N[j]? = some (dictOf fs k)) (hf : ∀ e ∈ fs, intEntry e) (hne : es ≠ []) (hd : (es.map (·.hash) ++ fs.map (·.hash)).Nodup) (hz : es.length + fs.length < 10000) :
    Ex p w (5 + 6 * fs.length) (mergeMapping 40 (.ref (40 + (j + 1))) false) (st L₀ life gs dr os (dictOf es n :: N) t) pos () (st L₀ life gs dr os (dictOf (es ++ fs) (n + fs.length) :: N) t) pos := by
  have hs : ∀ es' n', (hp L₀ life (dictOf es' n' :: N)).get? (40 + (j + 1)) = some (dictOf fs k) := fun es' n' => hp_get h0 (by rw [List.getElem?_cons_succ]; exact hN)
  have hm : ∀ es' n', (hp L₀ life (dictOf es' n' :: N)).get? 40 = some (dictOf es' n') := fun es' n' => hp_get (j := 0) h0 rfl
  have hu : ∀ es' n' e, (hp L₀ life (dictOf es' n' :: N)).update 40 (Obj.mapDictKeys (·.push e)) = hp L₀ life (dictOf (es' ++ [e]) (n' + 1) :: N) := fun es' n' e => by
    have := hp_upd (L := dictOf es' n' :: N) (life := life) (j := 0) h0 (Obj.mapDictKeys (·.push e))
    rw [show (dictOf es' n' :: N).modify 0 (Obj.mapDictKeys (·.push e)) = Obj.mapDictKeys (·.push e) (dictOf es' n') :: N from rfl, push_dict] at this
    exact this
  unfold mergeMapping
  rw [show 5 + 6 * fs.length = 1 + (1 + (0 + (1 + (1 + (1 + (6 * fs.length + 0)))))) by omega]
  refine Ex.bind (Ex_isDict (hs es n)) ?_
  rw [if_pos rfl]
  refine Ex.bind (Ex_specIter (hs es n)) ?_
  rw [show (some (Value.builtin "dict.__iter__") == some (Value.builtin "dict.__iter__")) = true from by decide]
  refine Ex.bind (n₁ := 0) (a := true) .pure ?_
  dsimp only
  rw [if_neg (by intro h; exact absurd (beq_iff_eq.mp h) (show 40 + (j + 1) ≠ 1 by omega))]
  refine Ex.bind (Ex_entries (hm es n)) ?_
  rw [if_neg (by
    intro h
    cases es with
    | nil => exact hne rfl
    | cons => simp at h)]
  refine Ex.bind (Ex_entries (hs es n)) ?_
  refine Ex.bind (Ex_epoch (hs es n)) ?_
  rw [List.range_eq_range', List.size_toArray]
  refine Ex.bind (a := ()) ?_ .pure
  have hd0 : (es.map (·.hash) ++ (fs.drop 0).map (·.hash)).Nodup := by rw [List.drop_zero]; exact hd
  rw [show dictOf (es ++ fs) (n + fs.length) = dictOf (es ++ fs.drop 0) (n + fs.length) by rw [List.drop_zero]]
  refine Ex_mergeLoop h0 hN hf _ ?_ fs.length 0 es n t (by omega) hd0 hz
  intro i e es' n' t' hi hm' hz'
  refine (?_ : Ex p w (1 + (4 + (1 + 0))) _ _ _ _ _ _)
  refine Ex.bind (Ex_entries (hs es' n')) ?_
  rw [List.getElem?_toArray, hi]
  dsimp only
  refine Ex.bind (a := ()) (s₁ := st L₀ life gs dr os (dictOf (es' ++ [e]) (n' + 1) :: N) t') (q₁ := pos) (Ex.holding ?_) ?_
  · rw [if_neg (by decide)]
    have y := Ex_put (p := p) (w := w) (gs := gs) (dr := dr) (os := os) (q := pos) (t := t') (hm es' n') (by decide) (hf e (List.mem_of_getElem? hi)) hm' hz'
    rw [hu] at y
    exact y
  · refine Ex.bind (Ex_epoch (hs _ _)) ?_
    rw [if_neg (by simp)]
    exact .pure
end Mine
set_option maxRecDepth 100000
namespace Mine
open PySem PySem.W PyProof.Rows
variable {p : Program} {w : World} {gs : Array GenState} {dr : Drawn} {os : OsState} {pos : Pos} {L₀ : List Obj} {life : Life}

noncomputable def vals : List (Int × Str) → Nat → List (Value × Value)
  | [], _ => []
  | x :: r, t => (.int x.1 t, .str x.2 (t + 1)) :: vals r (t + 2)
noncomputable def ents2 : List (Int × Str) → Nat → List DictEntry
  | [], _ => []
  | x :: r, t => ⟨hashInt x.1, .int x.1 t, .str x.2 (t + 1)⟩ :: ents2 r (t + 2)
theorem ents2_hash : ∀ (r : List (Int × Str)) (t : Nat), (ents2 r t).map (·.hash) = r.map fun x => hashInt x.1
  | [], _ => rfl
  | _ :: r, t => by unfold ents2; rw [List.map_cons, List.map_cons, ents2_hash r]
theorem ents2_length : ∀ (r : List (Int × Str)) (t : Nat), (ents2 r t).length = r.length
  | [], _ => rfl
  | _ :: r, t => by unfold ents2; rw [List.length_cons, List.length_cons, ents2_length r]
theorem ents_int (r : List (Int × Str)) : ∀ (t : Nat), ∀ e ∈ ents r t, intEntry e := by
  induction r with
  | nil => intro t e h; exact absurd h (by unfold ents; exact List.not_mem_nil)
  | cons x r ih =>
    intro t e h
    unfold ents at h
    rcases List.mem_cons.mp h with rfl | h
    · exact ⟨_, _, rfl, rfl⟩
    · exact ih _ e h
theorem ents2_int (r : List (Int × Str)) : ∀ (t : Nat), ∀ e ∈ ents2 r t, intEntry e := by
  induction r with
  | nil => intro t e h; exact absurd h (by unfold ents2; exact List.not_mem_nil)
  | cons x r ih =>
    intro t e h
    unfold ents2 at h
    rcases List.mem_cons.mp h with rfl | h
    · exact ⟨_, _, rfl, rfl⟩
    · exact ih _ e h

theorem Ex_evalPairs {L : List Obj} : ∀ (r : List (Int × Str)) (t : Nat), Ex p w (3 * r.length) (evalPairs (prs pos r)) (st L₀ life gs dr os L t) pos (vals r t) (st L₀ life gs dr os L (t + 2 * r.length)) pos
  | [], t => .pure
  | x :: r, t => by
    show Ex p w _ (do let kv ← kS x; let vv ← holding [kv] (vS pos x); return (kv, vv) :: (← holding [kv, vv] (evalPairs (prs pos r)))) _ _ _ _ _
    rw [List.length_cons, show 3 * (r.length + 1) = 1 + (2 + (3 * r.length + 0)) by omega]
    refine Ex.bind (a := .int x.1 t) (s₁ := st L₀ life gs dr os L (t + 1)) (q₁ := pos) (Ex.fresh .pure) ?_
    refine Ex.bind (a := .str x.2 (t + 1)) (s₁ := st L₀ life gs dr os L (t + 2)) (q₁ := pos) (Ex.holding (Ex.fresh (.at .pure))) ?_
    have z := Ex_evalPairs (L := L) r (t + 2)
    rw [show t + 2 + 2 * r.length = t + 2 * (r.length + 1) by omega] at z
    exact Ex.bind (Ex.holding z) .pure

theorem Ex_sets {M : List Obj} (h0 : L₀.length = 40) (g : Value × Value → PUnit → Sem (ForInStep PUnit))
    (hg : ∀ (i : Int) (tk : Tok) (v : Value) (es : List DictEntry) (n t : Nat), (∀ e ∈ es, e.hash ≠ hashInt i) → es.length < 10000 →
      Ex p w 10 (g (.int i tk, v) ()) (st L₀ life gs dr os (M ++ [dictOf es n]) t) pos (.yield ()) (st L₀ life gs dr os (M ++ [dictOf (es ++ [⟨hashInt i, .int i tk, v⟩]) (n + 1)]) (t + 1)) pos) :
    ∀ (r : List (Int × Str)) (u : Nat) (es : List DictEntry) (n t : Nat), apart es r → es.length + r.length < 10000 →
      Ex p w (10 * r.length) (forIn (vals r u) () g) (st L₀ life gs dr os (M ++ [dictOf es n]) t) pos () (st L₀ life gs dr os (M ++ [dictOf (es ++ ents2 r u) (n + r.length)]) (t + r.length)) pos
  | [], u, es, n, t, _, _ => by
    rw [show es ++ ents2 [] u = es from List.append_nil _]
    exact .pure
  | x :: r, u, es, n, t, ha, hz => by
    unfold vals
    rw [List.forIn_cons, List.length_cons] at *
    rw [show 10 * (r.length + 1) = 10 + 10 * r.length by omega]
    refine Ex.bind (hg x.1 u (.str x.2 (u + 1)) es n t ha.head (by omega)) ?_
    have z := Ex_sets h0 g hg r (u + 2) (es ++ [⟨hashInt x.1, .int x.1 u, .str x.2 (u + 1)⟩]) (n + 1) (t + 1) (ha.next _ rfl) (by rw [List.length_append]; simp only [List.length_cons, List.length_nil]; omega)
    rw [List.append_assoc, show n + 1 + r.length = n + (r.length + 1) by omega, show t + 1 + r.length = t + (r.length + 1) by omega] at z
    exact z

theorem Ex_subShort {r : List (Int × Str)} {L : List Obj} {t : Nat} (h0 : L₀.length = 40) (hr : r.length ≤ 15) (ha : apart [] r) :
    Ex p w (1 + 13 * r.length) (subDict (prs pos r)) (st L₀ life gs dr os L t) pos (40 + L.length) (st L₀ life gs dr os (L ++ [dictOf (ents2 r t) r.length]) (t + 3 * r.length)) pos := by
  unfold subDict
  rw [show 1 + 13 * r.length = 1 + ((3 * r.length + (10 * r.length + 0)) + 0) by omega]
  refine Ex.bind (Ex_alloc h0) ?_
  have hl : (prs pos r).length ≤ 15 := by unfold prs; rw [List.length_map]; exact hr
  refine Ex.bind (a := ()) (Ex.holding ?_) .pure
  rw [if_pos hl]
  refine Ex.bind (Ex_evalPairs r t) ?_
  refine Ex.holding ?_
  refine Ex.bind (n₁ := 10 * r.length) (n₂ := 0) (a := ()) ?_ .pure
  rw [show dictOf (ents2 r t) r.length = dictOf ([] ++ ents2 r t) (0 + r.length) by rw [List.nil_append, Nat.zero_add], show t + 3 * r.length = t + 2 * r.length + r.length by omega]
  refine Ex_sets h0 _ ?_ r t [] 0 (t + 2 * r.length) ha (by simp only [List.length_nil]; omega)
  intro i tk v es n t' hm hz
  have z := Ex_set (p := p) (w := w) (gs := gs) (dr := dr) (os := os) (q := pos) (t := t') (tk := tk) (v := v) (i := i) (hp_get (life := life) h0 (get_last L (dictOf es n))) hm hz (Nat.ble_eq_true_of_le (by omega))
  rw [hp_upd h0, modify_last, push_dict] at z
  exact Ex.bind (n₁ := 10) (n₂ := 0) z .pure

/-- what the display makes: the pairs that wait, the main dict's entries, the dicts behind it, the tokens, the steps -/
noncomputable def walkD : List (Int × Str) → List (Int × Str) → List DictEntry → List Obj → Nat → Nat → List (Int × Str) × List DictEntry × List Obj × Nat × Nat
  | [], rc, es, N, t, c => (rc, es, N, t, c)
  | x :: r, rc, es, N, t, c => match Nat.beq (rc ++ [x]).length 17 with
    | true => walkD r [] (es ++ ents (rc ++ [x]) t) (N ++ [dictOf (ents (rc ++ [x]) t) 17]) (t + 51) (c + 330)
    | false => walkD r (rc ++ [x]) es N t c

theorem Ex_flush {rc : List (Int × Str)} {es : List DictEntry} {N : List Obj} {t : Nat} (h0 : L₀.length = 40) (hl : rc.length = 17) (hne : es ≠ []) (ha : apart es rc) (hz : es.length < 5000) :
    Ex p w (223 + 107) (do
      let sub ← holding [.ref 40] (subDict (prs pos rc))
      (holding [.ref 40, .ref sub] (mergeMapping 40 (.ref sub) false)).onRaise fun x => do let _ ← holding [.ref 40, x] (runValue (.builtin "proto.let_go" {}))
      return some 40) (st L₀ life gs dr os (dictOf es es.length :: N) t) pos (some 40) (st L₀ life gs dr os (dictOf (es ++ ents rc t) (es ++ ents rc t).length :: (N ++ [dictOf (ents rc t) 17])) (t + 51)) pos := by
  have ha' : apart [] rc := by
    unfold apart at ha ⊢
    rw [List.nodup_append] at ha
    exact ha.2.1
  have z := Ex_sub (p := p) (w := w) (gs := gs) (dr := dr) (os := os) (pos := pos) (life := life) (t := t) (L := dictOf es es.length :: N) h0 (by omega) (by omega) ha'
  rw [hl] at z
  refine Ex.bind (Ex.holding z) ?_
  have hN : (N ++ [dictOf (ents rc t) 17])[N.length]? = some (dictOf (ents rc t) 17) := get_last _ _
  have y := Ex_merge (p := p) (w := w) (gs := gs) (dr := dr) (os := os) (pos := pos) (life := life) (t := t + 3 * 17) (es := es) (n := es.length) h0 hN (ents_int rc t) hne (by rw [ents_hash]; exact ha) (by rw [ents_length]; omega)
  rw [ents_length, hl] at y
  refine Ex.bind (n₁ := 107) (n₂ := 0) (a := ()) (Ex.onRaise (Ex.holding ?_)) .pure
  rw [List.length_append, ents_length, hl]
  exact y
end Mine
set_option maxRecDepth 100000
namespace Mine
open PySem PySem.W PyProof.Rows
variable {p : Program} {w : World} {gs : Array GenState} {dr : Drawn} {os : OsState} {pos : Pos} {L₀ : List Obj} {life : Life}

noncomputable def items (pos : Pos) (r : List (Int × Str)) : List (Option (Sem Value) × Sem Value) := r.map fun x => (some (kS x), vS pos x)
structure Wk where
  rc : List (Int × Str)
  es : List DictEntry
  N : List Obj
  t : Nat
noncomputable def walkE : List (Int × Str) → Wk → Wk
  | [], k => k
  | x :: r, k => match Nat.beq (k.rc ++ [x]).length 17 with
    | true => walkE r ⟨[], k.es ++ ents (k.rc ++ [x]) k.t, k.N ++ [dictOf (ents (k.rc ++ [x]) k.t) 17], k.t + 51⟩
    | false => walkE r ⟨k.rc ++ [x], k.es, k.N, k.t⟩
noncomputable def costE : List (Int × Str) → List (Int × Str) → Nat
  | [], _ => 0
  | x :: r, rc => match Nat.beq (rc ++ [x]).length 17 with
    | true => 330 + costE r []
    | false => costE r (rc ++ [x])

noncomputable abbrev stK (L₀ : List Obj) (life : Life) (gs : Array GenState) (dr : Drawn) (os : OsState) (k : Wk) : Shared := st L₀ life gs dr os (dictOf k.es k.es.length :: k.N) k.t

theorem apart_app {es : List DictEntry} {a b : List (Int × Str)} (h : apart es (a ++ b)) : apart es a ∧ ∀ t, apart (es ++ ents a t) b := by
  unfold apart at h
  rw [List.map_append, ← List.append_assoc] at h
  refine ⟨(List.nodup_append.mp h).1, fun t => ?_⟩
  unfold apart
  rw [List.map_append, ents_hash]
  exact h
theorem walkE_ok : ∀ (r : List (Int × Str)) (k : Wk), k.es ≠ [] → apart k.es (k.rc ++ r) → k.es.length + (k.rc ++ r).length < 5000 →
    (walkE r k).es ≠ [] ∧ apart (walkE r k).es (walkE r k).rc ∧ (walkE r k).es.length + (walkE r k).rc.length < 5000
  | [], k, hn, ha, hz => by
    rw [List.append_nil] at ha hz
    exact ⟨hn, ha, hz⟩
  | x :: r, k, hn, ha, hz => by
    have e : k.rc ++ x :: r = (k.rc ++ [x]) ++ r := by rw [List.append_assoc]; rfl
    rw [e] at ha hz
    unfold walkE
    cases hb : Nat.beq (k.rc ++ [x]).length 17 with
    | false => exact walkE_ok r ⟨k.rc ++ [x], k.es, k.N, k.t⟩ hn ha hz
    | true =>
      exact walkE_ok r ⟨[], k.es ++ ents (k.rc ++ [x]) k.t, k.N ++ [dictOf (ents (k.rc ++ [x]) k.t) 17], k.t + 51⟩ (by simp [hn]) ((apart_app ha).2 k.t)
        (by simp only [List.length_append, ents_length, List.nil_append] at hz ⊢; omega)

theorem Ex_loop (g : Option (Sem Value) × Sem Value → Option Addr × List (Sem Value × Sem Value) → Sem (ForInStep (Option Addr × List (Sem Value × Sem Value))))
    (hstep : ∀ x rc m, (rc ++ [x]).length ≠ 17 → g (some (kS x), vS pos x) (m, prs pos rc) = .pure (.yield (m, prs pos (rc ++ [x]))))
    (hfull : ∀ x (k : Wk), (k.rc ++ [x]).length = 17 → k.es ≠ [] → apart k.es (k.rc ++ [x]) → k.es.length < 5000 →
      Ex p w 330 (g (some (kS x), vS pos x) (some 40, prs pos k.rc)) (stK L₀ life gs dr os k) pos (.yield (some 40, prs pos []))
        (stK L₀ life gs dr os ⟨[], k.es ++ ents (k.rc ++ [x]) k.t, k.N ++ [dictOf (ents (k.rc ++ [x]) k.t) 17], k.t + 51⟩) pos) :
    ∀ (r : List (Int × Str)) (k : Wk), k.es ≠ [] → apart k.es (k.rc ++ r) → k.es.length + (k.rc ++ r).length < 5000 →
      Ex p w (costE r k.rc) (forIn (items pos r) (some 40, prs pos k.rc) g) (stK L₀ life gs dr os k) pos (some 40, prs pos (walkE r k).rc) (stK L₀ life gs dr os (walkE r k)) pos
  | [], k, hn, ha, hz => .pure
  | x :: r, k, hn, ha, hz => by
    have e : k.rc ++ x :: r = (k.rc ++ [x]) ++ r := by rw [List.append_assoc]; rfl
    rw [e] at ha hz
    show Ex p w _ (forIn ((some (kS x), vS pos x) :: items pos r) _ g) _ _ _ _ _
    rw [List.forIn_cons]
    unfold walkE costE
    cases hb : Nat.beq (k.rc ++ [x]).length 17 with
    | false =>
      rw [hstep x k.rc (some 40) (Nat.ne_of_beq_eq_false hb)]
      exact Ex_loop g hstep hfull r ⟨k.rc ++ [x], k.es, k.N, k.t⟩ hn ha hz
    | true =>
      have heq : (k.rc ++ [x]).length = 17 := Nat.eq_of_beq_eq_true hb
      obtain ⟨ha1, ha2⟩ := apart_app ha
      rw [List.length_append] at hz
      refine Ex.bind (hfull x k heq hn ha1 (by omega)) ?_
      exact Ex_loop g hstep hfull r ⟨[], k.es ++ ents (k.rc ++ [x]) k.t, k.N ++ [dictOf (ents (k.rc ++ [x]) k.t) 17], k.t + 51⟩ (by simp [hn]) (ha2 k.t)
        (by simp only [List.length_append, ents_length, List.nil_append] at hz ⊢; omega)

theorem Ex_first (g : Option (Sem Value) × Sem Value → Option Addr × List (Sem Value × Sem Value) → Sem (ForInStep (Option Addr × List (Sem Value × Sem Value))))
    (hstep : ∀ x rc m, (rc ++ [x]).length ≠ 17 → g (some (kS x), vS pos x) (m, prs pos rc) = .pure (.yield (m, prs pos (rc ++ [x]))))
    (hfirst : ∀ x rc t, (rc ++ [x]).length = 17 → apart [] (rc ++ [x]) →
      Ex p w 223 (g (some (kS x), vS pos x) (none, prs pos rc)) (st L₀ life gs dr os [] t) pos (.yield (some 40, prs pos [])) (st L₀ life gs dr os [dictOf (ents (rc ++ [x]) t) 17] (t + 51)) pos)
    {rest : List (Int × Str)} {t : Nat} {a : Option Addr × List (Sem Value × Sem Value)} {s' : Shared} {n : Nat} :
    ∀ (r rc : List (Int × Str)), r ≠ [] → (rc ++ r).length = 17 → apart [] (rc ++ r) →
      Ex p w n (forIn (items pos rest) (some 40, prs pos []) g) (st L₀ life gs dr os [dictOf (ents (rc ++ r) t) 17] (t + 51)) pos a s' pos →
      Ex p w (223 + n) (forIn (items pos (r ++ rest)) (none, prs pos rc) g) (st L₀ life gs dr os [] t) pos a s' pos
  | [], _, h, _, _, _ => absurd rfl h
  | [x], rc, _, hl, ha, hr => by
    show Ex p w _ (forIn ((some (kS x), vS pos x) :: items pos rest) _ g) _ _ _ _ _
    rw [List.forIn_cons]
    exact Ex.bind (hfirst x rc t hl ha) hr
  | x :: y :: r, rc, _, hl, ha, hr => by
    have e : rc ++ x :: y :: r = (rc ++ [x]) ++ y :: r := by rw [List.append_assoc]; rfl
    rw [e] at hl ha hr
    show Ex p w _ (forIn ((some (kS x), vS pos x) :: items pos (y :: r ++ rest)) _ g) _ _ _ _ _
    rw [List.forIn_cons, hstep x rc none (by rw [List.length_append, List.length_cons] at hl; omega)]
    exact Ex_first g hstep hfirst (y :: r) (rc ++ [x]) (by simp) hl ha hr

theorem Ex_both (g : Option (Sem Value) × Sem Value → Option Addr × List (Sem Value × Sem Value) → Sem (ForInStep (Option Addr × List (Sem Value × Sem Value))))
    {f r : List (Int × Str)} {t : Nat} {k : Wk} (hf : f.length = 17) (hk : walkE r ⟨[], ents f t, [], t + 51⟩ = k) (ha : apart [] (f ++ r)) (hz : (f ++ r).length < 5000)
    (hstep : ∀ x rc m, (rc ++ [x]).length ≠ 17 → g (some (kS x), vS pos x) (m, prs pos rc) = .pure (.yield (m, prs pos (rc ++ [x]))))
    (hfirst : ∀ x rc t, (rc ++ [x]).length = 17 → apart [] (rc ++ [x]) →
      Ex p w 223 (g (some (kS x), vS pos x) (none, prs pos rc)) (st L₀ life gs dr os [] t) pos (.yield (some 40, prs pos [])) (st L₀ life gs dr os [dictOf (ents (rc ++ [x]) t) 17] (t + 51)) pos)
    (hfull : ∀ x (k : Wk), (k.rc ++ [x]).length = 17 → k.es ≠ [] → apart k.es (k.rc ++ [x]) → k.es.length < 5000 →
      Ex p w 330 (g (some (kS x), vS pos x) (some 40, prs pos k.rc)) (stK L₀ life gs dr os k) pos (.yield (some 40, prs pos []))
        (stK L₀ life gs dr os ⟨[], k.es ++ ents (k.rc ++ [x]) k.t, k.N ++ [dictOf (ents (k.rc ++ [x]) k.t) 17], k.t + 51⟩) pos) :
    Ex p w (223 + costE r []) (forIn (items pos (f ++ r)) (none, prs pos []) g) (st L₀ life gs dr os [] t) pos (some 40, prs pos k.rc) (stK L₀ life gs dr os k) pos := by
  have hfl : (ents f t).length = 17 := by rw [ents_length, hf]
  obtain ⟨ha0, ha1⟩ := apart_app ha
  have ha1 := ha1 t
  rw [List.nil_append] at ha1
  have hfne : f ≠ [] := by intro e; rw [e] at hf; cases hf
  have hene : ents f t ≠ [] := by intro e; rw [e] at hfl; cases hfl
  have hzz : (ents f t).length + ([] ++ r).length < 5000 := by rw [List.length_append] at hz; simp only [List.nil_append]; omega
  refine Ex_first g hstep hfirst f [] hfne hf ha0 ?_
  have loop := Ex_loop (p := p) (w := w) (gs := gs) (dr := dr) (os := os) (pos := pos) (L₀ := L₀) (life := life) g hstep hfull r ⟨[], ents f t, [], t + 51⟩ hene ha1 hzz
  rw [hk] at loop
  unfold stK at loop
  dsimp only at loop
  rw [hfl] at loop
  exact loop
theorem prs_snoc (rc : List (Int × Str)) (x : Int × Str) : prs pos rc ++ [(kS x, vS pos x)] = prs pos (rc ++ [x]) := by simp [prs]
theorem prs_length (rc : List (Int × Str)) : (prs pos rc).length = rc.length := by simp [prs]
theorem prs_ne {rc : List (Int × Str)} (h : rc ≠ []) : ¬ (prs pos rc).isEmpty = true := by
  cases rc with
  | nil => exact absurd rfl h
  | cons => simp [prs]

theorem Ex_display {f r : List (Int × Str)} {t : Nat} {k : Wk} (h0 : L₀.length = 40) (hf : f.length = 17) (hk : walkE r ⟨[], ents f t, [], t + 51⟩ = k) (hrc : k.rc ≠ []) (hs : k.rc.length ≤ 15) (ha : apart [] (f ++ r)) (hz : (f ++ r).length < 5000) :
    Ex p w ((223 + costE r []) + (((1 + 13 * k.rc.length) + ((5 + 6 * k.rc.length) + 0)) + 0)) (dictDisplay (items pos (f ++ r))) (st L₀ life gs dr os [] t) pos (.ref 40)
      (st L₀ life gs dr os (dictOf (k.es ++ ents2 k.rc k.t) (k.es ++ ents2 k.rc k.t).length :: (k.N ++ [dictOf (ents2 k.rc k.t) k.rc.length])) (k.t + 3 * k.rc.length)) pos := by
  have hfl : (ents f t).length = 17 := by rw [ents_length, hf]
  obtain ⟨ha0, ha1⟩ := apart_app ha
  have ha1 := ha1 t
  rw [List.nil_append] at ha1
  have hene : ents f t ≠ [] := by intro e; rw [e] at hfl; cases hfl
  have hzz : (ents f t).length + ([] ++ r).length < 5000 := by rw [List.length_append] at hz; simp only [List.nil_append]; omega
  obtain ⟨ke, ka, kz⟩ := walkE_ok r ⟨[], ents f t, [], t + 51⟩ hene ha1 hzz
  rw [hk] at ke ka kz
  have ka' : apart [] k.rc := by
    unfold apart at ka ⊢
    exact (List.nodup_append.mp ka).2.1
  unfold dictDisplay
  dsimp only
  refine Ex.bind (a := (some 40, prs pos k.rc)) (s₁ := stK L₀ life gs dr os k) (q₁ := pos) ?_ ?_
  · refine Ex_both _ hf hk ha hz ?_ ?_ ?_
    · intro x rc m hne
      dsimp only
      rw [prs_snoc, prs_length, if_neg (by rw [beq_iff_eq]; exact hne)]
      rfl
    · intro x rc t hl ha
      dsimp only
      rw [prs_snoc, prs_length, if_pos (by rw [beq_iff_eq]; exact hl), if_neg (prs_ne (by simp))]
      have z := Ex_sub (p := p) (w := w) (gs := gs) (dr := dr) (os := os) (pos := pos) (life := life) (t := t) (L := []) h0 (by omega) (by omega) ha
      rw [hl] at z
      exact Ex.bind (n₁ := 223) (n₂ := 0) (Ex.bind (n₁ := 223) (n₂ := 0) z .pure) .pure
    · intro x k hl hne ha hz
      dsimp only
      rw [prs_snoc, prs_length, if_pos (by rw [beq_iff_eq]; exact hl), if_neg (prs_ne (by simp))]
      exact Ex.bind (n₁ := 330) (n₂ := 0) (Ex_flush h0 hl hne ha hz) .pure
  · dsimp only
    rw [if_neg (prs_ne hrc)]
    refine Ex.bind (a := some 40) (s₁ := st L₀ life gs dr os (dictOf (k.es ++ ents2 k.rc k.t) (k.es ++ ents2 k.rc k.t).length :: (k.N ++ [dictOf (ents2 k.rc k.t) k.rc.length])) (k.t + 3 * k.rc.length)) (q₁ := pos) ?_ .pure
    refine Ex.bind (Ex.holding (Ex_subShort h0 hs ka')) ?_
    refine Ex.bind (a := ()) (Ex.onRaise (Ex.holding ?_)) .pure
    have hN : (k.N ++ [dictOf (ents2 k.rc k.t) k.rc.length])[k.N.length]? = some (dictOf (ents2 k.rc k.t) k.rc.length) := get_last _ _
    have y := Ex_merge (p := p) (w := w) (gs := gs) (dr := dr) (os := os) (pos := pos) (life := life) (t := k.t + 3 * k.rc.length) (es := k.es) (n := k.es.length) h0 hN (ents2_int k.rc k.t) ke (by rw [ents2_hash]; exact ka) (by rw [ents2_length]; omega)
    rw [ents2_length] at y
    rw [List.length_append, ents2_length]
    exact y
end Mine
set_option maxRecDepth 100000
namespace Mine
open PySem PySem.W PyProof.Rows

set_option linter.unusedVariables false
noncomputable section
/-! the top: the heap's objects behind each group of its statements -/
noncomputable abbrev u (s : String) : Str := Str.ofString s
noncomputable abbrev P₁ : Program := PySem.Challenge.pw_wr0051_01
noncomputable def life : Life := {}
noncomputable def en (P : Params) (x : Str) (t : Tok) (v : Value) : DictEntry := ⟨PyData.keyHash P x, .str x t, v⟩
noncomputable def cells : List Stmt := P₁.main.body
noncomputable def cell (i : Nat) : Stmt := (cells[i]?).getD (.Pass default)
noncomputable def clsBody : Stmt → List Stmt
  | .ClassDef _ _ _ b .. => b
  | _ => []
noncomputable def mth (i j : Nat) : Stmt := ((clsBody (cell i))[j]?).getD (.Pass default)
noncomputable def defArgs : Stmt → Arguments
  | .FunctionDef _ a .. => a
  | _ => default
noncomputable def defBody : Stmt → List Stmt
  | .FunctionDef _ _ b .. => b
  | _ => []
noncomputable def defScope : Stmt → Scope
  | .FunctionDef _ _ _ _ _ _ s .. => s
  | _ => default
noncomputable def defPos : Stmt → Pos
  | .FunctionDef _ _ _ _ _ _ _ _ _ p => p
  | _ => default
noncomputable def fn (s : Stmt) (qual : Str) (globals : Addr) (closure : List (Str × Addr)) (dV kV doc pm : Value) (an : Option Addr) (cd ct : Value) (b : Addr) : FuncData := match s with
  | .FunctionDef n a body _ _ _ sc .. => { name := n, qualname := qual, params := a, body := .stmts body, scope := sc, globals := globals, closure := closure, defaults := dV, kwdefaults := kV, doc := doc, pyModule := pm, annotations := an, code := cd, closureTuple := ct, builtins := b }
  | _ => default
/-- the table b3, read off the text's own display -/
noncomputable def tabOf : List (Option Expr) → List Expr → List (Int × Str)
  | some (.Constant (.int i) _ _) :: ks, .Constant (.str s) _ _ :: vs => (i, s) :: tabOf ks vs
  | _, _ => []
noncomputable def dictKs : Stmt → List (Option Expr)
  | .Assign _ (.Dict ks _ _) _ => ks
  | _ => []
noncomputable def dictVs : Stmt → List Expr
  | .Assign _ (.Dict _ vs _) _ => vs
  | _ => []
noncomputable def tbl : List (Int × Str) := tabOf (dictKs (cell 4)) (dictVs (cell 4))
noncomputable def tblF : List (Int × Str) := tbl.take 17
noncomputable def tblR : List (Int × Str) := tbl.drop 17
noncomputable def wk : Wk := walkE tblR ⟨[], ents tblF 263, [], 314⟩
noncomputable def b3es : List DictEntry := wk.es ++ ents2 wk.rc wk.t
noncomputable def dObs : List Obj := dictOf b3es 650 :: (wk.N ++ [dictOf (ents2 wk.rc wk.t) wk.rc.length])
noncomputable def dOb (j : Nat) : Obj := (dObs[j]?).getD default
noncomputable def o11 (P : Params) : Obj := ⟨(.type "tuple"), none, (.seq #[] 0), #[]⟩
noncomputable def o12 (P : Params) : Obj := ⟨.none, none, (.fields #[]), #[]⟩
noncomputable def o13 (P : Params) : Obj := ⟨(.type "code"), none, (.fields #[(.str (u "<module>") 182), (.str (u "<module>") 183), (.str (u "/claim/cut.py") 184), (.int 1 0), (.int 0 0), (.int 0 0), (.int 0 0), (.int 0 0), (.ref 11), (.bool false), (.int 181 0), (.ref 12), .none, .none, .none, .none, (.int 185 0), (.int 1 0), (.str (u "/claim/cut.py") 186)]), #[]⟩
noncomputable def o14 (P : Params) : Obj := ⟨(.type "frame"), none, .plain, #[(some (.ref 13)), (some (.ref 3)), (some (.ref 3)), none, (some (.str (u "__main__") 164)), none, (some (.ref 0))]⟩
noncomputable def heap_pre (P : Params) : Heap := ⟨⟨[boot_o_0 P, boot_o_1 P, boot_o_2 P, boot_o_3 P, boot_o_4 P, boot_o_5 P, boot_o_6 P, boot_o_7 P, boot_o_8 P, boot_o_9 P, boot_o_10 P, o11 P, o12 P, o13 P, o14 P]⟩, life⟩
noncomputable def pospre : Pos := ⟨0, 0, 0, 0⟩
noncomputable def treeblk (P : Params) : BT := (.node (boot_o_0 P) (.node (boot_o_1 P) (.node (boot_o_3 P) (.node (boot_o_7 P) .nil .nil) (.node (o11 P) .nil .nil)) (.node (boot_o_5 P) (.node (boot_o_9 P) .nil .nil) (.node (o13 P) .nil .nil))) (.node (boot_o_2 P) (.node (boot_o_4 P) (.node (boot_o_8 P) .nil .nil) (.node (o12 P) .nil .nil)) (.node (boot_o_6 P) (.node (boot_o_10 P) .nil .nil) (.node (o14 P) .nil .nil))))
noncomputable def Sblk (w : World) (os : OsState) : SharedT := ⟨treeblk w.params, 15, life, ⟨[]⟩, boot_drawn, 187, os⟩
noncomputable def posblk : Pos := ⟨0, 0, 0, 0⟩
noncomputable def o3A (P : Params) : Obj := ⟨(.type "dict"), none, (.dict #[(en P (u "__name__") 165 (.str (u "cpy313.stringprep") 194)), (en P (u "__doc__") 166 .none), (en P (u "__package__") 167 .none), (en P (u "__loader__") 168 (.builtin "__main__.__loader__#opaque")), (en P (u "__spec__") 169 .none), (en P (u "__annotations__") 170 (.ref 6)), (en P (u "__builtins__") 171 (.ref 4)), (en P (u "__file__") 173 (.str (u "/claim/cut.py") 172)), (en P (u "__cached__") 174 .none), (en P (u "_wall") 193 (.ref 21))] 10), #[]⟩
noncomputable def o12A (P : Params) : Obj := ⟨.none, none, (.fields #[(.int 1 0), (.int 0 0), (.ref 20)]), #[]⟩
noncomputable def o15 (P : Params) : Obj := ⟨(.type "tuple"), none, (.seq #[] 0), #[]⟩
noncomputable def o16 (P : Params) : Obj := ⟨.none, none, (.fields #[]), #[]⟩
noncomputable def o17 (P : Params) : Obj := ⟨(.type "tuple"), none, (.seq #[(.str (u "k") 190)] 0), #[]⟩
noncomputable def o18 (P : Params) : Obj := ⟨(.type "tuple"), none, (.seq #[] 0), #[]⟩
noncomputable def o19 (P : Params) : Obj := ⟨.none, none, (.func (fn (cell 0) (u "_wall") 0 [] .none .none .none .none none .none .none 0)), #[]⟩
noncomputable def o20 (P : Params) : Obj := ⟨(.type "code"), none, (.fields #[(.str (u "_wall") 187), (.str (u "_wall") 188), (.str (u "/claim/cut.py") 189), (.int 1 0), (.int 1 0), (.int 0 0), (.int 0 0), (.int 3 0), (.ref 15), (.bool true), (.int 181 0), (.ref 16), .none, (.ref 17), (.ref 18), (.ref 19), (.int 191 0), (.int 1 0), (.str (u "/claim/cut.py") 192)]), #[]⟩
noncomputable def o21 (P : Params) : Obj := ⟨(.type "function"), none, (.func (fn (cell 0) (u "_wall") 3 [] .none .none .none (.str (u "__main__") 164) none (.ref 20) .none 0)), #[]⟩
noncomputable def treeA (P : Params) : BT := (.node (boot_o_0 P) (.node (boot_o_1 P) (.node (o3A P) (.node (boot_o_7 P) (.node (o15 P) .nil .nil) .nil) (.node (o11 P) (.node (o19 P) .nil .nil) .nil)) (.node (boot_o_5 P) (.node (boot_o_9 P) (.node (o17 P) .nil .nil) .nil) (.node (o13 P) (.node (o21 P) .nil .nil) .nil))) (.node (boot_o_2 P) (.node (boot_o_4 P) (.node (boot_o_8 P) (.node (o16 P) .nil .nil) .nil) (.node (o12A P) (.node (o20 P) .nil .nil) .nil)) (.node (boot_o_6 P) (.node (boot_o_10 P) (.node (o18 P) .nil .nil) .nil) (.node (o14 P) .nil .nil))))
noncomputable def SA (w : World) (os : OsState) : SharedT := ⟨treeA w.params, 22, life, ⟨[]⟩, boot_drawn, 196, os⟩
noncomputable def posA : Pos := ⟨4, 0, 4, 8⟩
noncomputable def o3B (P : Params) : Obj := ⟨(.type "dict"), none, (.dict #[(en P (u "__name__") 165 (.str (u "cpy313.stringprep") 194)), (en P (u "__doc__") 166 .none), (en P (u "__package__") 167 .none), (en P (u "__loader__") 168 (.builtin "__main__.__loader__#opaque")), (en P (u "__spec__") 169 .none), (en P (u "__annotations__") 170 (.ref 6)), (en P (u "__builtins__") 171 (.ref 4)), (en P (u "__file__") 173 (.str (u "/claim/cut.py") 172)), (en P (u "__cached__") 174 .none), (en P (u "_wall") 193 (.ref 21)), (en P (u "b1_set") 255 (.ref 29))] 11), #[]⟩
noncomputable def o22 (P : Params) : Obj := ⟨(.type "list"), none, (.seq #[(.int 173 196), (.int 847 197), (.int 6150 198), (.int 6155 199), (.int 6156 200), (.int 6157 201), (.int 8203 202), (.int 8204 203), (.int 8205 204), (.int 8288 205), (.int 65279 206)] 0), #[]⟩
noncomputable def o23 (P : Params) : Obj := ⟨(.type "range"), none, (.fields #[(.int 65024 207), (.int 65040 208), (.int 1 209)]), #[]⟩
noncomputable def o24 (P : Params) : Obj := ⟨(.type "list"), none, (.seq #[(.int 65024 212), (.int 65025 213), (.int 65026 214), (.int 65027 215), (.int 65028 216), (.int 65029 217), (.int 65030 218), (.int 65031 219), (.int 65032 220), (.int 65033 221), (.int 65034 222), (.int 65035 223), (.int 65036 224), (.int 65037 225), (.int 65038 226), (.int 65039 227)] 18), #[]⟩
noncomputable def o25 (P : Params) : Obj := ⟨(.type "range_iterator"), none, (.fields #[(.int 65040 0), (.int 0 0), (.int 1 0)]), #[]⟩
noncomputable def o26 (P : Params) : Obj := ⟨(.type "tuple"), none, (.seq #[] 0), #[]⟩
noncomputable def o27 (P : Params) : Obj := ⟨(.type "StopIteration"), none, (.fields #[(.ref 26), .none, .none, .none, (.bool false), .none]), #[]⟩
noncomputable def o28 (P : Params) : Obj := ⟨(.type "list"), none, (.seq #[(.int 173 196), (.int 847 197), (.int 6150 198), (.int 6155 199), (.int 6156 200), (.int 6157 201), (.int 8203 202), (.int 8204 203), (.int 8205 204), (.int 8288 205), (.int 65279 206), (.int 65024 212), (.int 65025 213), (.int 65026 214), (.int 65027 215), (.int 65028 216), (.int 65029 217), (.int 65030 218), (.int 65031 219), (.int 65032 220), (.int 65033 221), (.int 65034 222), (.int 65035 223), (.int 65036 224), (.int 65037 225), (.int 65038 226), (.int 65039 227)] 0), #[]⟩
noncomputable def o29 (P : Params) : Obj := ⟨(.type "set"), none, (.set #[(65024, (.int 65024 212)), (65025, (.int 65025 213)), (65026, (.int 65026 214)), (65027, (.int 65027 215)), (65028, (.int 65028 216)), (65029, (.int 65029 217)), (6150, (.int 6150 198)), (65030, (.int 65030 218)), (65031, (.int 65031 219)), (65032, (.int 65032 220)), (65033, (.int 65033 221)), (6155, (.int 6155 199)), (6156, (.int 6156 200)), (6157, (.int 6157 201)), (8203, (.int 8203 202)), (8204, (.int 8204 203)), (8205, (.int 8205 204)), (65034, (.int 65034 222)), (65035, (.int 65035 223)), (65036, (.int 65036 224)), (65037, (.int 65037 225)), (65038, (.int 65038 226)), (65039, (.int 65039 227)), (173, (.int 173 196)), (847, (.int 847 197)), (8288, (.int 8288 205)), (65279, (.int 65279 206))] 29 ⟨127, #[0, 1, 2, 3, 4, 5, 6, 7, 8, 9, 10, 11, 12, 13, 14, 15, 16, 17, 18, 19, 20, 21, 22, 45, 79, 96, 127], #[], 0, !P.followText "set-order", 2, true⟩), #[]⟩
noncomputable def o30 (P : Params) : Obj := ⟨(.type "list_iterator"), none, (.fields #[.none, (.int 27 0)]), #[]⟩
noncomputable def o31 (P : Params) : Obj := ⟨(.type "tuple"), none, (.seq #[] 0), #[]⟩
noncomputable def o32 (P : Params) : Obj := ⟨(.type "StopIteration"), none, (.fields #[(.ref 31), .none, .none, .none, (.bool false), .none]), #[]⟩
noncomputable def treeB (P : Params) : BT := (.node (boot_o_0 P) (.node (boot_o_1 P) (.node (o3B P) (.node (boot_o_7 P) (.node (o15 P) (.node (o31 P) .nil .nil) .nil) (.node (o23 P) .nil .nil)) (.node (o11 P) (.node (o19 P) .nil .nil) (.node (o27 P) .nil .nil))) (.node (boot_o_5 P) (.node (boot_o_9 P) (.node (o17 P) .nil .nil) (.node (o25 P) .nil .nil)) (.node (o13 P) (.node (o21 P) .nil .nil) (.node (o29 P) .nil .nil)))) (.node (boot_o_2 P) (.node (boot_o_4 P) (.node (boot_o_8 P) (.node (o16 P) (.node (o32 P) .nil .nil) .nil) (.node (o24 P) .nil .nil)) (.node (o12A P) (.node (o20 P) .nil .nil) (.node (o28 P) .nil .nil))) (.node (boot_o_6 P) (.node (boot_o_10 P) (.node (o18 P) .nil .nil) (.node (o26 P) .nil .nil)) (.node (o14 P) (.node (o22 P) .nil .nil) (.node (o30 P) .nil .nil)))))
noncomputable def SB (w : World) (os : OsState) : SharedT := ⟨treeB w.params, 33, life, ⟨[]⟩, boot_drawn, 256, os⟩
noncomputable def posB : Pos := ⟨5, 0, 5, 6⟩
noncomputable def o3C (P : Params) : Obj := ⟨(.type "dict"), none, (.dict #[(en P (u "__name__") 165 (.str (u "cpy313.stringprep") 194)), (en P (u "__doc__") 166 .none), (en P (u "__package__") 167 .none), (en P (u "__loader__") 168 (.builtin "__main__.__loader__#opaque")), (en P (u "__spec__") 169 .none), (en P (u "__annotations__") 170 (.ref 6)), (en P (u "__builtins__") 171 (.ref 4)), (en P (u "__file__") 173 (.str (u "/claim/cut.py") 172)), (en P (u "__cached__") 174 .none), (en P (u "_wall") 193 (.ref 21)), (en P (u "b1_set") 255 (.ref 29)), (en P (u "in_table_b1") 262 (.ref 39))] 12), #[]⟩
noncomputable def o12C (P : Params) : Obj := ⟨.none, none, (.fields #[(.int 1 0), (.int 0 0), (.ref 20), (.int 6 0), (.int 0 0), (.ref 38)]), #[]⟩
noncomputable def o33 (P : Params) : Obj := ⟨(.type "tuple"), none, (.seq #[] 0), #[]⟩
noncomputable def o34 (P : Params) : Obj := ⟨.none, none, (.fields #[]), #[]⟩
noncomputable def o35 (P : Params) : Obj := ⟨(.type "tuple"), none, (.seq #[(.str (u "code") 259)] 0), #[]⟩
noncomputable def o36 (P : Params) : Obj := ⟨(.type "tuple"), none, (.seq #[] 0), #[]⟩
noncomputable def o37 (P : Params) : Obj := ⟨.none, none, (.func (fn (cell 3) (u "in_table_b1") 0 [] .none .none .none .none none .none .none 0)), #[]⟩
noncomputable def o38 (P : Params) : Obj := ⟨(.type "code"), none, (.fields #[(.str (u "in_table_b1") 256), (.str (u "in_table_b1") 257), (.str (u "/claim/cut.py") 258), (.int 6 0), (.int 1 0), (.int 0 0), (.int 0 0), (.int 3 0), (.ref 33), (.bool true), (.int 181 0), (.ref 34), .none, (.ref 35), (.ref 36), (.ref 37), (.int 260 0), (.int 6 0), (.str (u "/claim/cut.py") 261)]), #[]⟩
noncomputable def o39 (P : Params) : Obj := ⟨(.type "function"), none, (.func (fn (cell 3) (u "in_table_b1") 3 [] .none .none .none (.str (u "cpy313.stringprep") 194) none (.ref 38) .none 0)), #[]⟩
noncomputable def treeC (P : Params) : BT := (.node (boot_o_0 P) (.node (boot_o_1 P) (.node (o3C P) (.node (boot_o_7 P) (.node (o15 P) (.node (o31 P) .nil .nil) .nil) (.node (o23 P) (.node (o39 P) .nil .nil) .nil)) (.node (o11 P) (.node (o19 P) (.node (o35 P) .nil .nil) .nil) (.node (o27 P) .nil .nil))) (.node (boot_o_5 P) (.node (boot_o_9 P) (.node (o17 P) (.node (o33 P) .nil .nil) .nil) (.node (o25 P) .nil .nil)) (.node (o13 P) (.node (o21 P) (.node (o37 P) .nil .nil) .nil) (.node (o29 P) .nil .nil)))) (.node (boot_o_2 P) (.node (boot_o_4 P) (.node (boot_o_8 P) (.node (o16 P) (.node (o32 P) .nil .nil) .nil) (.node (o24 P) .nil .nil)) (.node (o12C P) (.node (o20 P) (.node (o36 P) .nil .nil) .nil) (.node (o28 P) .nil .nil))) (.node (boot_o_6 P) (.node (boot_o_10 P) (.node (o18 P) (.node (o34 P) .nil .nil) .nil) (.node (o26 P) .nil .nil)) (.node (o14 P) (.node (o22 P) (.node (o38 P) .nil .nil) .nil) (.node (o30 P) .nil .nil)))))
noncomputable def SC (w : World) (os : OsState) : SharedT := ⟨treeC w.params, 40, life, ⟨[]⟩, boot_drawn, 263, os⟩
noncomputable def L0 (P : Params) : List Obj := [boot_o_0 P, boot_o_1 P, boot_o_2 P, o3C P, boot_o_4 P, boot_o_5 P, boot_o_6 P, boot_o_7 P, boot_o_8 P, boot_o_9 P, boot_o_10 P, o11 P, o12C P, o13 P, o14 P, o15 P, o16 P, o17 P, o18 P, o19 P, o20 P, o21 P, o22 P, o23 P, o24 P, o25 P, o26 P, o27 P, o28 P, o29 P, o30 P, o31 P, o32 P, o33 P, o34 P, o35 P, o36 P, o37 P, o38 P, o39 P]
noncomputable def posC : Pos := ⟨6, 0, 7, 30⟩
noncomputable def o3D (P : Params) : Obj := ⟨(.type "dict"), none, (.dict #[(en P (u "__name__") 165 (.str (u "cpy313.stringprep") 194)), (en P (u "__doc__") 166 .none), (en P (u "__package__") 167 .none), (en P (u "__loader__") 168 (.builtin "__main__.__loader__#opaque")), (en P (u "__spec__") 169 .none), (en P (u "__annotations__") 170 (.ref 6)), (en P (u "__builtins__") 171 (.ref 4)), (en P (u "__file__") 173 (.str (u "/claim/cut.py") 172)), (en P (u "__cached__") 174 .none), (en P (u "_wall") 193 (.ref 21)), (en P (u "b1_set") 255 (.ref 29)), (en P (u "in_table_b1") 262 (.ref 39)), (en P (u "b3_exceptions") 2213 (.ref 40))] 13), #[]⟩
noncomputable def treeD (P : Params) : BT := (.node (boot_o_0 P) (.node (boot_o_1 P) (.node (o3D P) (.node (boot_o_7 P) (.node (o15 P) (.node (o31 P) (.node (dOb 23) .nil .nil) .nil) (.node (dOb 7) .nil .nil)) (.node (o23 P) (.node (o39 P) (.node (dOb 31) .nil .nil) .nil) (.node (dOb 15) .nil .nil))) (.node (o11 P) (.node (o19 P) (.node (o35 P) (.node (dOb 27) .nil .nil) .nil) (.node (dOb 11) .nil .nil)) (.node (o27 P) (.node (dOb 3) (.node (dOb 35) .nil .nil) .nil) (.node (dOb 19) .nil .nil)))) (.node (boot_o_5 P) (.node (boot_o_9 P) (.node (o17 P) (.node (o33 P) (.node (dOb 25) .nil .nil) .nil) (.node (dOb 9) .nil .nil)) (.node (o25 P) (.node (dOb 1) (.node (dOb 33) .nil .nil) .nil) (.node (dOb 17) .nil .nil))) (.node (o13 P) (.node (o21 P) (.node (o37 P) (.node (dOb 29) .nil .nil) .nil) (.node (dOb 13) .nil .nil)) (.node (o29 P) (.node (dOb 5) (.node (dOb 37) .nil .nil) .nil) (.node (dOb 21) .nil .nil))))) (.node (boot_o_2 P) (.node (boot_o_4 P) (.node (boot_o_8 P) (.node (o16 P) (.node (o32 P) (.node (dOb 24) .nil .nil) .nil) (.node (dOb 8) .nil .nil)) (.node (o24 P) (.node (dOb 0) (.node (dOb 32) .nil .nil) .nil) (.node (dOb 16) .nil .nil))) (.node (o12C P) (.node (o20 P) (.node (o36 P) (.node (dOb 28) .nil .nil) .nil) (.node (dOb 12) .nil .nil)) (.node (o28 P) (.node (dOb 4) (.node (dOb 36) .nil .nil) .nil) (.node (dOb 20) .nil .nil)))) (.node (boot_o_6 P) (.node (boot_o_10 P) (.node (o18 P) (.node (o34 P) (.node (dOb 26) .nil .nil) .nil) (.node (dOb 10) .nil .nil)) (.node (o26 P) (.node (dOb 2) (.node (dOb 34) .nil .nil) .nil) (.node (dOb 18) .nil .nil))) (.node (o14 P) (.node (o22 P) (.node (o38 P) (.node (dOb 30) .nil .nil) .nil) (.node (dOb 14) .nil .nil)) (.node (o30 P) (.node (dOb 6) (.node (dOb 38) .nil .nil) .nil) (.node (dOb 22) .nil .nil))))))
noncomputable def SD (w : World) (os : OsState) : SharedT := ⟨treeD w.params, 79, life, ⟨[]⟩, boot_drawn, 2214, os⟩
noncomputable def L0D (P : Params) : List Obj := [boot_o_0 P, boot_o_1 P, boot_o_2 P, o3D P, boot_o_4 P, boot_o_5 P, boot_o_6 P, boot_o_7 P, boot_o_8 P, boot_o_9 P, boot_o_10 P, o11 P, o12C P, o13 P, o14 P, o15 P, o16 P, o17 P, o18 P, o19 P, o20 P, o21 P, o22 P, o23 P, o24 P, o25 P, o26 P, o27 P, o28 P, o29 P, o30 P, o31 P, o32 P, o33 P, o34 P, o35 P, o36 P, o37 P, o38 P, o39 P]
noncomputable def posD : Pos := ⟨8, 0, 8, 13⟩
noncomputable def o3E (P : Params) : Obj := ⟨(.type "dict"), none, (.dict #[(en P (u "__name__") 165 (.str (u "cpy313.email.header") 2238)), (en P (u "__doc__") 166 .none), (en P (u "__package__") 167 .none), (en P (u "__loader__") 168 (.builtin "__main__.__loader__#opaque")), (en P (u "__spec__") 169 .none), (en P (u "__annotations__") 170 (.ref 6)), (en P (u "__builtins__") 171 (.ref 4)), (en P (u "__file__") 173 (.str (u "/claim/cut.py") 172)), (en P (u "__cached__") 174 .none), (en P (u "_wall") 193 (.ref 21)), (en P (u "b1_set") 255 (.ref 29)), (en P (u "in_table_b1") 262 (.ref 39)), (en P (u "b3_exceptions") 2213 (.ref 40)), (en P (u "map_table_b3") 2221 (.ref 85)), (en P (u "ELLIPSIS_MARKER") 2225 (.str (u "...") 2224)), (en P (u "_ellipsis_match") 2237 (.ref 92)), (en P (u "EMPTYSTRING") 2241 (.str (u "") 2240))] 17), #[]⟩
noncomputable def o12E (P : Params) : Obj := ⟨.none, none, (.fields #[(.int 1 0), (.int 0 0), (.ref 20), (.int 6 0), (.int 0 0), (.ref 38), (.int 9 0), (.int 0 0), (.ref 84), (.int 16 0), (.int 0 0), (.ref 91)]), #[]⟩
noncomputable def o79 (P : Params) : Obj := ⟨(.type "tuple"), none, (.seq #[] 0), #[]⟩
noncomputable def o80 (P : Params) : Obj := ⟨.none, none, (.fields #[]), #[]⟩
noncomputable def o81 (P : Params) : Obj := ⟨(.type "tuple"), none, (.seq #[(.str (u "code") 2217), (.str (u "r") 2218)] 0), #[]⟩
noncomputable def o82 (P : Params) : Obj := ⟨(.type "tuple"), none, (.seq #[] 0), #[]⟩
noncomputable def o83 (P : Params) : Obj := ⟨.none, none, (.func (fn (cell 5) (u "map_table_b3") 0 [] .none .none .none .none none .none .none 0)), #[]⟩
noncomputable def o84 (P : Params) : Obj := ⟨(.type "code"), none, (.fields #[(.str (u "map_table_b3") 2214), (.str (u "map_table_b3") 2215), (.str (u "/claim/cut.py") 2216), (.int 9 0), (.int 1 0), (.int 0 0), (.int 0 0), (.int 3 0), (.ref 79), (.bool true), (.int 181 0), (.ref 80), .none, (.ref 81), (.ref 82), (.ref 83), (.int 2219 0), (.int 9 0), (.str (u "/claim/cut.py") 2220)]), #[]⟩
noncomputable def o85 (P : Params) : Obj := ⟨(.type "function"), none, (.func (fn (cell 5) (u "map_table_b3") 3 [] .none .none .none (.str (u "cpy313.stringprep") 194) none (.ref 84) .none 0)), #[]⟩
noncomputable def o86 (P : Params) : Obj := ⟨(.type "tuple"), none, (.seq #[] 0), #[]⟩
noncomputable def o87 (P : Params) : Obj := ⟨.none, none, (.fields #[]), #[]⟩
noncomputable def o88 (P : Params) : Obj := ⟨(.type "tuple"), none, (.seq #[(.str (u "want") 2229), (.str (u "got") 2230), (.str (u "ws") 2231), (.str (u "startpos") 2232), (.str (u "endpos") 2233), (.str (u "w") 2234)] 0), #[]⟩
noncomputable def o89 (P : Params) : Obj := ⟨(.type "tuple"), none, (.seq #[] 0), #[]⟩
noncomputable def o90 (P : Params) : Obj := ⟨.none, none, (.func (fn (cell 8) (u "_ellipsis_match") 0 [] .none .none .none .none none .none .none 0)), #[]⟩
noncomputable def o91 (P : Params) : Obj := ⟨(.type "code"), none, (.fields #[(.str (u "_ellipsis_match") 2226), (.str (u "_ellipsis_match") 2227), (.str (u "/claim/cut.py") 2228), (.int 16 0), (.int 2 0), (.int 0 0), (.int 0 0), (.int 3 0), (.ref 86), (.bool true), (.int 181 0), (.ref 87), .none, (.ref 88), (.ref 89), (.ref 90), (.int 2235 0), (.int 16 0), (.str (u "/claim/cut.py") 2236)]), #[]⟩
noncomputable def o92 (P : Params) : Obj := ⟨(.type "function"), none, (.func (fn (cell 8) (u "_ellipsis_match") 3 [] .none .none .none (.str (u "cpy313.doctest") 2222) none (.ref 91) .none 0)), #[]⟩
noncomputable def treeE (P : Params) : BT := (.node (boot_o_0 P) (.node (boot_o_1 P) (.node (o3E P) (.node (boot_o_7 P) (.node (o15 P) (.node (o31 P) (.node (dOb 23) .nil .nil) .nil) (.node (dOb 7) (.node (o79 P) .nil .nil) .nil)) (.node (o23 P) (.node (o39 P) (.node (dOb 31) .nil .nil) .nil) (.node (dOb 15) (.node (o87 P) .nil .nil) .nil))) (.node (o11 P) (.node (o19 P) (.node (o35 P) (.node (dOb 27) .nil .nil) .nil) (.node (dOb 11) (.node (o83 P) .nil .nil) .nil)) (.node (o27 P) (.node (dOb 3) (.node (dOb 35) .nil .nil) .nil) (.node (dOb 19) (.node (o91 P) .nil .nil) .nil)))) (.node (boot_o_5 P) (.node (boot_o_9 P) (.node (o17 P) (.node (o33 P) (.node (dOb 25) .nil .nil) .nil) (.node (dOb 9) (.node (o81 P) .nil .nil) .nil)) (.node (o25 P) (.node (dOb 1) (.node (dOb 33) .nil .nil) .nil) (.node (dOb 17) (.node (o89 P) .nil .nil) .nil))) (.node (o13 P) (.node (o21 P) (.node (o37 P) (.node (dOb 29) .nil .nil) .nil) (.node (dOb 13) (.node (o85 P) .nil .nil) .nil)) (.node (o29 P) (.node (dOb 5) (.node (dOb 37) .nil .nil) .nil) (.node (dOb 21) .nil .nil))))) (.node (boot_o_2 P) (.node (boot_o_4 P) (.node (boot_o_8 P) (.node (o16 P) (.node (o32 P) (.node (dOb 24) .nil .nil) .nil) (.node (dOb 8) (.node (o80 P) .nil .nil) .nil)) (.node (o24 P) (.node (dOb 0) (.node (dOb 32) .nil .nil) .nil) (.node (dOb 16) (.node (o88 P) .nil .nil) .nil))) (.node (o12E P) (.node (o20 P) (.node (o36 P) (.node (dOb 28) .nil .nil) .nil) (.node (dOb 12) (.node (o84 P) .nil .nil) .nil)) (.node (o28 P) (.node (dOb 4) (.node (dOb 36) .nil .nil) .nil) (.node (dOb 20) (.node (o92 P) .nil .nil) .nil)))) (.node (boot_o_6 P) (.node (boot_o_10 P) (.node (o18 P) (.node (o34 P) (.node (dOb 26) .nil .nil) .nil) (.node (dOb 10) (.node (o82 P) .nil .nil) .nil)) (.node (o26 P) (.node (dOb 2) (.node (dOb 34) .nil .nil) .nil) (.node (dOb 18) (.node (o90 P) .nil .nil) .nil))) (.node (o14 P) (.node (o22 P) (.node (o38 P) (.node (dOb 30) .nil .nil) .nil) (.node (dOb 14) (.node (o86 P) .nil .nil) .nil)) (.node (o30 P) (.node (dOb 6) (.node (dOb 38) .nil .nil) .nil) (.node (dOb 22) .nil .nil))))))
noncomputable def SE (w : World) (os : OsState) : SharedT := ⟨treeE w.params, 93, life, ⟨[]⟩, boot_drawn, 2242, os⟩
noncomputable def posE : Pos := ⟨45, 0, 45, 11⟩
noncomputable def o3F (P : Params) : Obj := ⟨(.type "dict"), none, (.dict #[(en P (u "__name__") 165 (.str (u "cpy313.email.header") 2238)), (en P (u "__doc__") 166 .none), (en P (u "__package__") 167 .none), (en P (u "__loader__") 168 (.builtin "__main__.__loader__#opaque")), (en P (u "__spec__") 169 .none), (en P (u "__annotations__") 170 (.ref 6)), (en P (u "__builtins__") 171 (.ref 4)), (en P (u "__file__") 173 (.str (u "/claim/cut.py") 172)), (en P (u "__cached__") 174 .none), (en P (u "_wall") 193 (.ref 21)), (en P (u "b1_set") 255 (.ref 29)), (en P (u "in_table_b1") 262 (.ref 39)), (en P (u "b3_exceptions") 2213 (.ref 40)), (en P (u "map_table_b3") 2221 (.ref 85)), (en P (u "ELLIPSIS_MARKER") 2225 (.str (u "...") 2224)), (en P (u "_ellipsis_match") 2237 (.ref 92)), (en P (u "EMPTYSTRING") 2241 (.str (u "") 2240)), (en P (u "_Accumulator") 2337 (.ref 172))] 18), #[]⟩
noncomputable def o12F (P : Params) : Obj := ⟨.none, none, (.fields #[(.int 1 0), (.int 0 0), (.ref 20), (.int 6 0), (.int 0 0), (.ref 38), (.int 9 0), (.int 0 0), (.ref 84), (.int 16 0), (.int 0 0), (.ref 91), (.int 46 0), (.int 0 0), (.ref 99)]), #[]⟩
noncomputable def o93 (P : Params) : Obj := ⟨(.type "tuple"), none, (.seq #[(.type "list")] 0), #[]⟩
noncomputable def o94 (P : Params) : Obj := ⟨(.type "builtin_function_or_method"), none, (.fields #[(.builtin "type.__prepare__"), (.type "type")]), #[]⟩
noncomputable def o95 (P : Params) : Obj := ⟨(.type "dict"), none, (.dict #[(en P (u "__module__") 2249 (.str (u "cpy313.email.header") 2238)), (en P (u "__qualname__") 2251 (.str (u "_Accumulator") 2250)), (en P (u "__firstlineno__") 2253 (.int 46 2252)), (en P (u "__init__") 2263 (.ref 109)), (en P (u "push") 2272 (.ref 116)), (en P (u "pop_from") 2282 (.ref 124)), (en P (u "pop") 2290 (.ref 132)), (en P (u "__len__") 2297 (.ref 139)), (en P (u "__str__") 2304 (.ref 146)), (en P (u "reset") 2312 (.ref 154)), (en P (u "is_onlyws") 2319 (.ref 161)), (en P (u "part_count") 2327 (.ref 169)), (en P (u "__static_attributes__") 2329 (.ref 170)), (en P (u "__classcell__") 2330 (.ref 96))] 14), #[]⟩
noncomputable def o96 (P : Params) : Obj := ⟨(.type "cell"), none, (.cell (some (.ref 172))), #[]⟩
noncomputable def o97 (P : Params) : Obj := ⟨(.type "tuple"), none, (.seq #[] 0), #[]⟩
noncomputable def o98 (P : Params) : Obj := ⟨.none, none, (.fields #[(.int 48 0), (.int 4 0), (.ref 108), (.int 52 0), (.int 4 0), (.ref 115), (.int 55 0), (.int 4 0), (.ref 123), (.int 60 0), (.int 4 0), (.ref 131), (.int 65 0), (.int 4 0), (.ref 138), (.int 68 0), (.int 4 0), (.ref 145), (.int 71 0), (.int 4 0), (.ref 153), (.int 74 0), (.int 4 0), (.ref 160), (.int 77 0), (.int 4 0), (.ref 168)]), #[]⟩
noncomputable def o99 (P : Params) : Obj := ⟨(.type "code"), none, (.fields #[(.str (u "_Accumulator") 2244), (.str (u "_Accumulator") 2245), (.str (u "/claim/cut.py") 2246), (.int 46 0), (.int 0 0), (.int 0 0), (.int 0 0), (.int 0 0), (.ref 97), (.bool false), (.int 181 0), (.ref 98), .none, .none, .none, .none, (.int 2247 0), (.int 46 0), (.str (u "/claim/cut.py") 2248)]), #[]⟩
noncomputable def o100 (P : Params) : Obj := ⟨(.type "frame"), none, .plain, #[(some (.ref 99)), (some (.ref 3)), (some (.ref 95)), none, (some (.str (u "cpy313.email.header") 2238)), none, (some (.ref 0))]⟩
noncomputable def o101 (P : Params) : Obj := ⟨(.type "tuple"), none, (.seq #[(.int 0 2254)] 0), #[]⟩
noncomputable def o102 (P : Params) : Obj := ⟨(.type "tuple"), none, (.seq #[(.ref 96)] 0), #[]⟩
noncomputable def o103 (P : Params) : Obj := ⟨(.type "tuple"), none, (.seq #[(.str (u "__class__") 2258)] 0), #[]⟩
noncomputable def o104 (P : Params) : Obj := ⟨.none, none, (.fields #[]), #[]⟩
noncomputable def o105 (P : Params) : Obj := ⟨(.type "tuple"), none, (.seq #[(.str (u "self") 2259), (.str (u "initial_size") 2260)] 0), #[]⟩
noncomputable def o106 (P : Params) : Obj := ⟨(.type "tuple"), none, (.seq #[] 0), #[]⟩
noncomputable def o107 (P : Params) : Obj := ⟨.none, none, (.func (fn (mth 11 0) (u "_Accumulator.__init__") 0 [] .none .none .none .none none .none .none 0)), #[]⟩
noncomputable def o108 (P : Params) : Obj := ⟨(.type "code"), none, (.fields #[(.str (u "__init__") 2255), (.str (u "_Accumulator.__init__") 2256), (.str (u "/claim/cut.py") 2257), (.int 48 0), (.int 2 0), (.int 0 0), (.int 0 0), (.int 3 0), (.ref 103), (.bool true), (.int 181 0), (.ref 104), .none, (.ref 105), (.ref 106), (.ref 107), (.int 2261 0), (.int 48 0), (.str (u "/claim/cut.py") 2262)]), #[]⟩
noncomputable def o109 (P : Params) : Obj := ⟨(.type "function"), none, (.func (fn (mth 11 0) (u "_Accumulator.__init__") 3 [((u "__class__"), 96)] (.ref 101) .none .none (.str (u "cpy313.email.header") 2238) none (.ref 108) (.ref 102) 0)), #[]⟩
noncomputable def o110 (P : Params) : Obj := ⟨(.type "tuple"), none, (.seq #[] 0), #[]⟩
noncomputable def o111 (P : Params) : Obj := ⟨.none, none, (.fields #[]), #[]⟩
noncomputable def o112 (P : Params) : Obj := ⟨(.type "tuple"), none, (.seq #[(.str (u "self") 2267), (.str (u "fws") 2268), (.str (u "string") 2269)] 0), #[]⟩
noncomputable def o113 (P : Params) : Obj := ⟨(.type "tuple"), none, (.seq #[] 0), #[]⟩
noncomputable def o114 (P : Params) : Obj := ⟨.none, none, (.func (fn (mth 11 1) (u "_Accumulator.push") 0 [] .none .none .none .none none .none .none 0)), #[]⟩
noncomputable def o115 (P : Params) : Obj := ⟨(.type "code"), none, (.fields #[(.str (u "push") 2264), (.str (u "_Accumulator.push") 2265), (.str (u "/claim/cut.py") 2266), (.int 52 0), (.int 3 0), (.int 0 0), (.int 0 0), (.int 3 0), (.ref 110), (.bool true), (.int 181 0), (.ref 111), .none, (.ref 112), (.ref 113), (.ref 114), (.int 2270 0), (.int 52 0), (.str (u "/claim/cut.py") 2271)]), #[]⟩
noncomputable def o116 (P : Params) : Obj := ⟨(.type "function"), none, (.func (fn (mth 11 1) (u "_Accumulator.push") 3 [] .none .none .none (.str (u "cpy313.email.header") 2238) none (.ref 115) .none 0)), #[]⟩
noncomputable def o117 (P : Params) : Obj := ⟨(.type "tuple"), none, (.seq #[(.int 0 2273)] 0), #[]⟩
noncomputable def o118 (P : Params) : Obj := ⟨(.type "tuple"), none, (.seq #[] 0), #[]⟩
noncomputable def o119 (P : Params) : Obj := ⟨.none, none, (.fields #[]), #[]⟩
noncomputable def o120 (P : Params) : Obj := ⟨(.type "tuple"), none, (.seq #[(.str (u "self") 2277), (.str (u "i") 2278), (.str (u "popped") 2279)] 0), #[]⟩
noncomputable def o121 (P : Params) : Obj := ⟨(.type "tuple"), none, (.seq #[] 0), #[]⟩
noncomputable def o122 (P : Params) : Obj := ⟨.none, none, (.func (fn (mth 11 2) (u "_Accumulator.pop_from") 0 [] .none .none .none .none none .none .none 0)), #[]⟩
noncomputable def o123 (P : Params) : Obj := ⟨(.type "code"), none, (.fields #[(.str (u "pop_from") 2274), (.str (u "_Accumulator.pop_from") 2275), (.str (u "/claim/cut.py") 2276), (.int 55 0), (.int 2 0), (.int 0 0), (.int 0 0), (.int 3 0), (.ref 118), (.bool true), (.int 181 0), (.ref 119), .none, (.ref 120), (.ref 121), (.ref 122), (.int 2280 0), (.int 55 0), (.str (u "/claim/cut.py") 2281)]), #[]⟩
noncomputable def o124 (P : Params) : Obj := ⟨(.type "function"), none, (.func (fn (mth 11 2) (u "_Accumulator.pop_from") 3 [] (.ref 117) .none .none (.str (u "cpy313.email.header") 2238) none (.ref 123) .none 0)), #[]⟩
noncomputable def o125 (P : Params) : Obj := ⟨(.type "tuple"), none, (.seq #[(.ref 96)] 0), #[]⟩
noncomputable def o126 (P : Params) : Obj := ⟨(.type "tuple"), none, (.seq #[(.str (u "__class__") 2286)] 0), #[]⟩
noncomputable def o127 (P : Params) : Obj := ⟨.none, none, (.fields #[]), #[]⟩
noncomputable def o128 (P : Params) : Obj := ⟨(.type "tuple"), none, (.seq #[(.str (u "self") 2287)] 0), #[]⟩
noncomputable def o129 (P : Params) : Obj := ⟨(.type "tuple"), none, (.seq #[] 0), #[]⟩
noncomputable def o130 (P : Params) : Obj := ⟨.none, none, (.func (fn (mth 11 3) (u "_Accumulator.pop") 0 [] .none .none .none .none none .none .none 0)), #[]⟩
noncomputable def o131 (P : Params) : Obj := ⟨(.type "code"), none, (.fields #[(.str (u "pop") 2283), (.str (u "_Accumulator.pop") 2284), (.str (u "/claim/cut.py") 2285), (.int 60 0), (.int 1 0), (.int 0 0), (.int 0 0), (.int 3 0), (.ref 126), (.bool true), (.int 181 0), (.ref 127), .none, (.ref 128), (.ref 129), (.ref 130), (.int 2288 0), (.int 60 0), (.str (u "/claim/cut.py") 2289)]), #[]⟩
noncomputable def o132 (P : Params) : Obj := ⟨(.type "function"), none, (.func (fn (mth 11 3) (u "_Accumulator.pop") 3 [((u "__class__"), 96)] .none .none .none (.str (u "cpy313.email.header") 2238) none (.ref 131) (.ref 125) 0)), #[]⟩
noncomputable def o133 (P : Params) : Obj := ⟨(.type "tuple"), none, (.seq #[] 0), #[]⟩
noncomputable def o134 (P : Params) : Obj := ⟨.none, none, (.fields #[]), #[]⟩
noncomputable def o135 (P : Params) : Obj := ⟨(.type "tuple"), none, (.seq #[(.str (u "self") 2294)] 0), #[]⟩
noncomputable def o136 (P : Params) : Obj := ⟨(.type "tuple"), none, (.seq #[] 0), #[]⟩
noncomputable def o137 (P : Params) : Obj := ⟨.none, none, (.func (fn (mth 11 4) (u "_Accumulator.__len__") 0 [] .none .none .none .none none .none .none 0)), #[]⟩
noncomputable def o138 (P : Params) : Obj := ⟨(.type "code"), none, (.fields #[(.str (u "__len__") 2291), (.str (u "_Accumulator.__len__") 2292), (.str (u "/claim/cut.py") 2293), (.int 65 0), (.int 1 0), (.int 0 0), (.int 0 0), (.int 3 0), (.ref 133), (.bool true), (.int 181 0), (.ref 134), .none, (.ref 135), (.ref 136), (.ref 137), (.int 2295 0), (.int 65 0), (.str (u "/claim/cut.py") 2296)]), #[]⟩
noncomputable def o139 (P : Params) : Obj := ⟨(.type "function"), none, (.func (fn (mth 11 4) (u "_Accumulator.__len__") 3 [] .none .none .none (.str (u "cpy313.email.header") 2238) none (.ref 138) .none 0)), #[]⟩
noncomputable def o140 (P : Params) : Obj := ⟨(.type "tuple"), none, (.seq #[] 0), #[]⟩
noncomputable def o141 (P : Params) : Obj := ⟨.none, none, (.fields #[]), #[]⟩
noncomputable def o142 (P : Params) : Obj := ⟨(.type "tuple"), none, (.seq #[(.str (u "self") 2301)] 0), #[]⟩
noncomputable def o143 (P : Params) : Obj := ⟨(.type "tuple"), none, (.seq #[] 0), #[]⟩
noncomputable def o144 (P : Params) : Obj := ⟨.none, none, (.func (fn (mth 11 5) (u "_Accumulator.__str__") 0 [] .none .none .none .none none .none .none 0)), #[]⟩
noncomputable def o145 (P : Params) : Obj := ⟨(.type "code"), none, (.fields #[(.str (u "__str__") 2298), (.str (u "_Accumulator.__str__") 2299), (.str (u "/claim/cut.py") 2300), (.int 68 0), (.int 1 0), (.int 0 0), (.int 0 0), (.int 3 0), (.ref 140), (.bool true), (.int 181 0), (.ref 141), .none, (.ref 142), (.ref 143), (.ref 144), (.int 2302 0), (.int 68 0), (.str (u "/claim/cut.py") 2303)]), #[]⟩
noncomputable def o146 (P : Params) : Obj := ⟨(.type "function"), none, (.func (fn (mth 11 5) (u "_Accumulator.__str__") 3 [] .none .none .none (.str (u "cpy313.email.header") 2238) none (.ref 145) .none 0)), #[]⟩
noncomputable def o147 (P : Params) : Obj := ⟨(.type "tuple"), none, (.seq #[.none] 0), #[]⟩
noncomputable def o148 (P : Params) : Obj := ⟨(.type "tuple"), none, (.seq #[] 0), #[]⟩
noncomputable def o149 (P : Params) : Obj := ⟨.none, none, (.fields #[]), #[]⟩
noncomputable def o150 (P : Params) : Obj := ⟨(.type "tuple"), none, (.seq #[(.str (u "self") 2308), (.str (u "startval") 2309)] 0), #[]⟩
noncomputable def o151 (P : Params) : Obj := ⟨(.type "tuple"), none, (.seq #[] 0), #[]⟩
noncomputable def o152 (P : Params) : Obj := ⟨.none, none, (.func (fn (mth 11 6) (u "_Accumulator.reset") 0 [] .none .none .none .none none .none .none 0)), #[]⟩
noncomputable def o153 (P : Params) : Obj := ⟨(.type "code"), none, (.fields #[(.str (u "reset") 2305), (.str (u "_Accumulator.reset") 2306), (.str (u "/claim/cut.py") 2307), (.int 71 0), (.int 2 0), (.int 0 0), (.int 0 0), (.int 3 0), (.ref 148), (.bool true), (.int 181 0), (.ref 149), .none, (.ref 150), (.ref 151), (.ref 152), (.int 2310 0), (.int 71 0), (.str (u "/claim/cut.py") 2311)]), #[]⟩
noncomputable def o154 (P : Params) : Obj := ⟨(.type "function"), none, (.func (fn (mth 11 6) (u "_Accumulator.reset") 3 [] (.ref 147) .none .none (.str (u "cpy313.email.header") 2238) none (.ref 153) .none 0)), #[]⟩
noncomputable def o155 (P : Params) : Obj := ⟨(.type "tuple"), none, (.seq #[] 0), #[]⟩
noncomputable def o156 (P : Params) : Obj := ⟨.none, none, (.fields #[]), #[]⟩
noncomputable def o157 (P : Params) : Obj := ⟨(.type "tuple"), none, (.seq #[(.str (u "self") 2316)] 0), #[]⟩
noncomputable def o158 (P : Params) : Obj := ⟨(.type "tuple"), none, (.seq #[] 0), #[]⟩
noncomputable def o159 (P : Params) : Obj := ⟨.none, none, (.func (fn (mth 11 7) (u "_Accumulator.is_onlyws") 0 [] .none .none .none .none none .none .none 0)), #[]⟩
noncomputable def o160 (P : Params) : Obj := ⟨(.type "code"), none, (.fields #[(.str (u "is_onlyws") 2313), (.str (u "_Accumulator.is_onlyws") 2314), (.str (u "/claim/cut.py") 2315), (.int 74 0), (.int 1 0), (.int 0 0), (.int 0 0), (.int 3 0), (.ref 155), (.bool true), (.int 181 0), (.ref 156), .none, (.ref 157), (.ref 158), (.ref 159), (.int 2317 0), (.int 74 0), (.str (u "/claim/cut.py") 2318)]), #[]⟩
noncomputable def o161 (P : Params) : Obj := ⟨(.type "function"), none, (.func (fn (mth 11 7) (u "_Accumulator.is_onlyws") 3 [] .none .none .none (.str (u "cpy313.email.header") 2238) none (.ref 160) .none 0)), #[]⟩
noncomputable def o162 (P : Params) : Obj := ⟨(.type "tuple"), none, (.seq #[(.ref 96)] 0), #[]⟩
noncomputable def o163 (P : Params) : Obj := ⟨(.type "tuple"), none, (.seq #[(.str (u "__class__") 2323)] 0), #[]⟩
noncomputable def o164 (P : Params) : Obj := ⟨.none, none, (.fields #[]), #[]⟩
noncomputable def o165 (P : Params) : Obj := ⟨(.type "tuple"), none, (.seq #[(.str (u "self") 2324)] 0), #[]⟩
noncomputable def o166 (P : Params) : Obj := ⟨(.type "tuple"), none, (.seq #[] 0), #[]⟩
noncomputable def o167 (P : Params) : Obj := ⟨.none, none, (.func (fn (mth 11 8) (u "_Accumulator.part_count") 0 [] .none .none .none .none none .none .none 0)), #[]⟩
noncomputable def o168 (P : Params) : Obj := ⟨(.type "code"), none, (.fields #[(.str (u "part_count") 2320), (.str (u "_Accumulator.part_count") 2321), (.str (u "/claim/cut.py") 2322), (.int 77 0), (.int 1 0), (.int 0 0), (.int 0 0), (.int 3 0), (.ref 163), (.bool true), (.int 181 0), (.ref 164), .none, (.ref 165), (.ref 166), (.ref 167), (.int 2325 0), (.int 77 0), (.str (u "/claim/cut.py") 2326)]), #[]⟩
noncomputable def o169 (P : Params) : Obj := ⟨(.type "function"), none, (.func (fn (mth 11 8) (u "_Accumulator.part_count") 3 [((u "__class__"), 96)] .none .none .none (.str (u "cpy313.email.header") 2238) none (.ref 168) (.ref 162) 0)), #[]⟩
noncomputable def o170 (P : Params) : Obj := ⟨(.type "tuple"), none, (.seq #[(.str (u "_initial_size") 2328)] 0), #[]⟩
noncomputable def o171 (P : Params) : Obj := ⟨(.type "dict"), none, (.dict #[(en P (u "__module__") 2249 (.str (u "cpy313.email.header") 2238)), (en P (u "__firstlineno__") 2253 (.int 46 2252)), (en P (u "__init__") 2263 (.ref 109)), (en P (u "push") 2272 (.ref 116)), (en P (u "pop_from") 2282 (.ref 124)), (en P (u "pop") 2290 (.ref 132)), (en P (u "__len__") 2297 (.ref 139)), (en P (u "__str__") 2304 (.ref 146)), (en P (u "reset") 2312 (.ref 154)), (en P (u "is_onlyws") 2319 (.ref 161)), (en P (u "part_count") 2327 (.ref 169)), (en P (u "__static_attributes__") 2329 (.ref 170)), (en P (u "__dict__") 2332 (.ref 173)), (en P (u "__weakref__") 2334 (.ref 174)), (en P (u "__doc__") 2335 .none)] 5), #[]⟩
noncomputable def o172 (P : Params) : Obj := ⟨(.type "type"), none, (.cls ⟨(u "_Accumulator"), [(.type "list")], [(.ref 172), (.type "list"), (.type "object")], 171, (u "_Accumulator"), true, [], [], false, none, false⟩), #[(some (.ref 93)), none, (some (.str (u "_Accumulator") 2242)), (some (.str (u "_Accumulator") 2250)), (some (.builtin "list.__new__")), (some (.bool true))]⟩
noncomputable def o173 (P : Params) : Obj := ⟨(.type "getset_descriptor"), none, (.fields #[(.str (u "__dict__") 2331), (.ref 172), (.builtin "function.__dict__"), (.builtin "function.__dict__#set")]), #[]⟩
noncomputable def o174 (P : Params) : Obj := ⟨(.type "getset_descriptor"), none, (.fields #[(.str (u "__weakref__") 2333), (.ref 172), (.builtin "ExceptionGroup.__weakref__"), .none]), #[]⟩
noncomputable def o175 (P : Params) : Obj := ⟨(.type "super"), none, (.fields #[(.ref 172), (.ref 172), (.ref 172)]), #[]⟩
noncomputable def o176 (P : Params) : Obj := ⟨(.type "builtin_function_or_method"), none, (.fields #[(.builtin "object.__init_subclass__"), (.ref 172)]), #[]⟩
noncomputable def treeF (P : Params) : BT := (.node (boot_o_0 P) (.node (boot_o_1 P) (.node (o3F P) (.node (boot_o_7 P) (.node (o15 P) (.node (o31 P) (.node (dOb 23) (.node (o127 P) .nil .nil) .nil) (.node (o95 P) (.node (o159 P) .nil .nil) .nil)) (.node (dOb 7) (.node (o79 P) (.node (o143 P) .nil .nil) .nil) (.node (o111 P) (.node (o175 P) .nil .nil) .nil))) (.node (o23 P) (.node (o39 P) (.node (dOb 31) (.node (o135 P) .nil .nil) .nil) (.node (o103 P) (.node (o167 P) .nil .nil) .nil)) (.node (dOb 15) (.node (o87 P) (.node (o151 P) .nil .nil) .nil) (.node (o119 P) .nil .nil)))) (.node (o11 P) (.node (o19 P) (.node (o35 P) (.node (dOb 27) (.node (o131 P) .nil .nil) .nil) (.node (o99 P) (.node (o163 P) .nil .nil) .nil)) (.node (dOb 11) (.node (o83 P) (.node (o147 P) .nil .nil) .nil) (.node (o115 P) .nil .nil))) (.node (o27 P) (.node (dOb 3) (.node (dOb 35) (.node (o139 P) .nil .nil) .nil) (.node (o107 P) (.node (o171 P) .nil .nil) .nil)) (.node (dOb 19) (.node (o91 P) (.node (o155 P) .nil .nil) .nil) (.node (o123 P) .nil .nil))))) (.node (boot_o_5 P) (.node (boot_o_9 P) (.node (o17 P) (.node (o33 P) (.node (dOb 25) (.node (o129 P) .nil .nil) .nil) (.node (o97 P) (.node (o161 P) .nil .nil) .nil)) (.node (dOb 9) (.node (o81 P) (.node (o145 P) .nil .nil) .nil) (.node (o113 P) .nil .nil))) (.node (o25 P) (.node (dOb 1) (.node (dOb 33) (.node (o137 P) .nil .nil) .nil) (.node (o105 P) (.node (o169 P) .nil .nil) .nil)) (.node (dOb 17) (.node (o89 P) (.node (o153 P) .nil .nil) .nil) (.node (o121 P) .nil .nil)))) (.node (o13 P) (.node (o21 P) (.node (o37 P) (.node (dOb 29) (.node (o133 P) .nil .nil) .nil) (.node (o101 P) (.node (o165 P) .nil .nil) .nil)) (.node (dOb 13) (.node (o85 P) (.node (o149 P) .nil .nil) .nil) (.node (o117 P) .nil .nil))) (.node (o29 P) (.node (dOb 5) (.node (dOb 37) (.node (o141 P) .nil .nil) .nil) (.node (o109 P) (.node (o173 P) .nil .nil) .nil)) (.node (dOb 21) (.node (o93 P) (.node (o157 P) .nil .nil) .nil) (.node (o125 P) .nil .nil)))))) (.node (boot_o_2 P) (.node (boot_o_4 P) (.node (boot_o_8 P) (.node (o16 P) (.node (o32 P) (.node (dOb 24) (.node (o128 P) .nil .nil) .nil) (.node (o96 P) (.node (o160 P) .nil .nil) .nil)) (.node (dOb 8) (.node (o80 P) (.node (o144 P) .nil .nil) .nil) (.node (o112 P) (.node (o176 P) .nil .nil) .nil))) (.node (o24 P) (.node (dOb 0) (.node (dOb 32) (.node (o136 P) .nil .nil) .nil) (.node (o104 P) (.node (o168 P) .nil .nil) .nil)) (.node (dOb 16) (.node (o88 P) (.node (o152 P) .nil .nil) .nil) (.node (o120 P) .nil .nil)))) (.node (o12F P) (.node (o20 P) (.node (o36 P) (.node (dOb 28) (.node (o132 P) .nil .nil) .nil) (.node (o100 P) (.node (o164 P) .nil .nil) .nil)) (.node (dOb 12) (.node (o84 P) (.node (o148 P) .nil .nil) .nil) (.node (o116 P) .nil .nil))) (.node (o28 P) (.node (dOb 4) (.node (dOb 36) (.node (o140 P) .nil .nil) .nil) (.node (o108 P) (.node (o172 P) .nil .nil) .nil)) (.node (dOb 20) (.node (o92 P) (.node (o156 P) .nil .nil) .nil) (.node (o124 P) .nil .nil))))) (.node (boot_o_6 P) (.node (boot_o_10 P) (.node (o18 P) (.node (o34 P) (.node (dOb 26) (.node (o130 P) .nil .nil) .nil) (.node (o98 P) (.node (o162 P) .nil .nil) .nil)) (.node (dOb 10) (.node (o82 P) (.node (o146 P) .nil .nil) .nil) (.node (o114 P) .nil .nil))) (.node (o26 P) (.node (dOb 2) (.node (dOb 34) (.node (o138 P) .nil .nil) .nil) (.node (o106 P) (.node (o170 P) .nil .nil) .nil)) (.node (dOb 18) (.node (o90 P) (.node (o154 P) .nil .nil) .nil) (.node (o122 P) .nil .nil)))) (.node (o14 P) (.node (o22 P) (.node (o38 P) (.node (dOb 30) (.node (o134 P) .nil .nil) .nil) (.node (o102 P) (.node (o166 P) .nil .nil) .nil)) (.node (dOb 14) (.node (o86 P) (.node (o150 P) .nil .nil) .nil) (.node (o118 P) .nil .nil))) (.node (o30 P) (.node (dOb 6) (.node (dOb 38) (.node (o142 P) .nil .nil) .nil) (.node (o110 P) (.node (o174 P) .nil .nil) .nil)) (.node (dOb 22) (.node (o94 P) (.node (o158 P) .nil .nil) .nil) (.node (o126 P) .nil .nil)))))))
noncomputable def SF (w : World) (os : OsState) : SharedT := ⟨treeF w.params, 177, life, ⟨[]⟩, boot_drawn, 2338, os⟩
noncomputable def posF : Pos := ⟨46, 0, 78, 32⟩
noncomputable def o3G (P : Params) : Obj := ⟨(.type "dict"), none, (.dict #[(en P (u "__name__") 165 (.str (u "law_wr0051_01") 2361)), (en P (u "__doc__") 166 .none), (en P (u "__package__") 167 .none), (en P (u "__loader__") 168 (.builtin "__main__.__loader__#opaque")), (en P (u "__spec__") 169 .none), (en P (u "__annotations__") 170 (.ref 6)), (en P (u "__builtins__") 171 (.ref 4)), (en P (u "__file__") 173 (.str (u "/claim/cut.py") 172)), (en P (u "__cached__") 174 .none), (en P (u "_wall") 193 (.ref 21)), (en P (u "b1_set") 255 (.ref 29)), (en P (u "in_table_b1") 262 (.ref 39)), (en P (u "b3_exceptions") 2213 (.ref 40)), (en P (u "map_table_b3") 2221 (.ref 85)), (en P (u "ELLIPSIS_MARKER") 2225 (.str (u "...") 2224)), (en P (u "_ellipsis_match") 2237 (.ref 92)), (en P (u "EMPTYSTRING") 2241 (.str (u "") 2240)), (en P (u "_Accumulator") 2337 (.ref 172)), (en P (u "CHAR_MAX") 2341 (.int 127 2340)), (en P (u "_grouping_intervals") 2350 (.ref 183)), (en P (u "_strip_padding") 2360 (.ref 190)), (en P (u "_law_typed") 2372 (.ref 197)), (en P (u "_law_parts") 2382 (.ref 204)), (en P (u "_law_lay") 2394 (.ref 211)), (en P (u "law") 2400 (.ref 216))] 25), #[]⟩
noncomputable def o12G (P : Params) : Obj := ⟨.none, none, (.fields #[(.int 1 0), (.int 0 0), (.ref 20), (.int 6 0), (.int 0 0), (.ref 38), (.int 9 0), (.int 0 0), (.ref 84), (.int 16 0), (.int 0 0), (.ref 91), (.int 46 0), (.int 0 0), (.ref 99), (.int 81 0), (.int 0 0), (.ref 182), (.int 93 0), (.int 0 0), (.ref 189), (.int 104 0), (.int 0 0), (.ref 196), (.int 116 0), (.int 0 0), (.ref 203), (.int 125 0), (.int 0 0), (.ref 210), (.int 139 0), (.int 0 0), (.ref 215)]), #[]⟩
noncomputable def o177 (P : Params) : Obj := ⟨(.type "tuple"), none, (.seq #[] 0), #[]⟩
noncomputable def o178 (P : Params) : Obj := ⟨.none, none, (.fields #[]), #[]⟩
noncomputable def o179 (P : Params) : Obj := ⟨(.type "tuple"), none, (.seq #[(.str (u "grouping") 2345), (.str (u "last_interval") 2346), (.str (u "interval") 2347)] 0), #[]⟩
noncomputable def o180 (P : Params) : Obj := ⟨(.type "tuple"), none, (.seq #[] 0), #[]⟩
noncomputable def o181 (P : Params) : Obj := ⟨.none, none, (.func (fn (cell 14) (u "_grouping_intervals") 0 [] .none .none .none .none none .none .none 0)), #[]⟩
noncomputable def o182 (P : Params) : Obj := ⟨(.type "code"), none, (.fields #[(.str (u "_grouping_intervals") 2342), (.str (u "_grouping_intervals") 2343), (.str (u "/claim/cut.py") 2344), (.int 81 0), (.int 1 0), (.int 0 0), (.int 0 0), (.int 35 0), (.ref 177), (.bool true), (.int 181 0), (.ref 178), .none, (.ref 179), (.ref 180), (.ref 181), (.int 2348 0), (.int 81 0), (.str (u "/claim/cut.py") 2349)]), #[]⟩
noncomputable def o183 (P : Params) : Obj := ⟨(.type "function"), none, (.func (fn (cell 14) (u "_grouping_intervals") 3 [] .none .none .none (.str (u "cpy313.locale") 2338) none (.ref 182) .none 0)), #[]⟩
noncomputable def o184 (P : Params) : Obj := ⟨(.type "tuple"), none, (.seq #[] 0), #[]⟩
noncomputable def o185 (P : Params) : Obj := ⟨.none, none, (.fields #[]), #[]⟩
noncomputable def o186 (P : Params) : Obj := ⟨(.type "tuple"), none, (.seq #[(.str (u "s") 2354), (.str (u "amount") 2355), (.str (u "lpos") 2356), (.str (u "rpos") 2357)] 0), #[]⟩
noncomputable def o187 (P : Params) : Obj := ⟨(.type "tuple"), none, (.seq #[] 0), #[]⟩
noncomputable def o188 (P : Params) : Obj := ⟨.none, none, (.func (fn (cell 15) (u "_strip_padding") 0 [] .none .none .none .none none .none .none 0)), #[]⟩
noncomputable def o189 (P : Params) : Obj := ⟨(.type "code"), none, (.fields #[(.str (u "_strip_padding") 2351), (.str (u "_strip_padding") 2352), (.str (u "/claim/cut.py") 2353), (.int 93 0), (.int 2 0), (.int 0 0), (.int 0 0), (.int 3 0), (.ref 184), (.bool true), (.int 181 0), (.ref 185), .none, (.ref 186), (.ref 187), (.ref 188), (.int 2358 0), (.int 93 0), (.str (u "/claim/cut.py") 2359)]), #[]⟩
noncomputable def o190 (P : Params) : Obj := ⟨(.type "function"), none, (.func (fn (cell 15) (u "_strip_padding") 3 [] .none .none .none (.str (u "cpy313.locale") 2338) none (.ref 189) .none 0)), #[]⟩
noncomputable def o191 (P : Params) : Obj := ⟨(.type "tuple"), none, (.seq #[] 0), #[]⟩
noncomputable def o192 (P : Params) : Obj := ⟨.none, none, (.fields #[]), #[]⟩
noncomputable def o193 (P : Params) : Obj := ⟨(.type "tuple"), none, (.seq #[(.str (u "letter") 2366), (.str (u "n") 2367), (.str (u "start") 2368), (.str (u "code") 2369)] 0), #[]⟩
noncomputable def o194 (P : Params) : Obj := ⟨(.type "tuple"), none, (.seq #[] 0), #[]⟩
noncomputable def o195 (P : Params) : Obj := ⟨.none, none, (.func (fn (cell 17) (u "_law_typed") 0 [] .none .none .none .none none .none .none 0)), #[]⟩
noncomputable def o196 (P : Params) : Obj := ⟨(.type "code"), none, (.fields #[(.str (u "_law_typed") 2363), (.str (u "_law_typed") 2364), (.str (u "/claim/cut.py") 2365), (.int 104 0), (.int 2 0), (.int 0 0), (.int 0 0), (.int 3 0), (.ref 191), (.bool true), (.int 181 0), (.ref 192), .none, (.ref 193), (.ref 194), (.ref 195), (.int 2370 0), (.int 104 0), (.str (u "/claim/cut.py") 2371)]), #[]⟩
noncomputable def o197 (P : Params) : Obj := ⟨(.type "function"), none, (.func (fn (cell 17) (u "_law_typed") 3 [] .none .none .none (.str (u "law_wr0051_01") 2361) none (.ref 196) .none 0)), #[]⟩
noncomputable def o198 (P : Params) : Obj := ⟨(.type "tuple"), none, (.seq #[] 0), #[]⟩
noncomputable def o199 (P : Params) : Obj := ⟨.none, none, (.fields #[]), #[]⟩
noncomputable def o200 (P : Params) : Obj := ⟨(.type "tuple"), none, (.seq #[(.str (u "n") 2376), (.str (u "sizes") 2377), (.str (u "parts") 2378), (.str (u "size") 2379)] 0), #[]⟩
noncomputable def o201 (P : Params) : Obj := ⟨(.type "tuple"), none, (.seq #[] 0), #[]⟩
noncomputable def o202 (P : Params) : Obj := ⟨.none, none, (.func (fn (cell 18) (u "_law_parts") 0 [] .none .none .none .none none .none .none 0)), #[]⟩
noncomputable def o203 (P : Params) : Obj := ⟨(.type "code"), none, (.fields #[(.str (u "_law_parts") 2373), (.str (u "_law_parts") 2374), (.str (u "/claim/cut.py") 2375), (.int 116 0), (.int 1 0), (.int 0 0), (.int 0 0), (.int 3 0), (.ref 198), (.bool true), (.int 181 0), (.ref 199), .none, (.ref 200), (.ref 201), (.ref 202), (.int 2380 0), (.int 116 0), (.str (u "/claim/cut.py") 2381)]), #[]⟩
noncomputable def o204 (P : Params) : Obj := ⟨(.type "function"), none, (.func (fn (cell 18) (u "_law_parts") 3 [] .none .none .none (.str (u "law_wr0051_01") 2361) none (.ref 203) .none 0)), #[]⟩
noncomputable def o205 (P : Params) : Obj := ⟨(.type "tuple"), none, (.seq #[] 0), #[]⟩
noncomputable def o206 (P : Params) : Obj := ⟨.none, none, (.fields #[]), #[]⟩
noncomputable def o207 (P : Params) : Obj := ⟨(.type "tuple"), none, (.seq #[(.str (u "pile") 2386), (.str (u "words") 2387), (.str (u "rest") 2388), (.str (u "word") 2389), (.str (u "begins") 2390), (.str (u "other") 2391)] 0), #[]⟩
noncomputable def o208 (P : Params) : Obj := ⟨(.type "tuple"), none, (.seq #[] 0), #[]⟩
noncomputable def o209 (P : Params) : Obj := ⟨.none, none, (.func (fn (cell 19) (u "_law_lay") 0 [] .none .none .none .none none .none .none 0)), #[]⟩
noncomputable def o210 (P : Params) : Obj := ⟨(.type "code"), none, (.fields #[(.str (u "_law_lay") 2383), (.str (u "_law_lay") 2384), (.str (u "/claim/cut.py") 2385), (.int 125 0), (.int 3 0), (.int 0 0), (.int 0 0), (.int 3 0), (.ref 205), (.bool true), (.int 181 0), (.ref 206), .none, (.ref 207), (.ref 208), (.ref 209), (.int 2392 0), (.int 125 0), (.str (u "/claim/cut.py") 2393)]), #[]⟩
noncomputable def o211 (P : Params) : Obj := ⟨(.type "function"), none, (.func (fn (cell 19) (u "_law_lay") 3 [] .none .none .none (.str (u "law_wr0051_01") 2361) none (.ref 210) .none 0)), #[]⟩
noncomputable def o212 (P : Params) : Obj := ⟨(.type "tuple"), none, (.seq #[] 0), #[]⟩
noncomputable def o213 (P : Params) : Obj := ⟨.none, none, (.fields #[]), #[]⟩
noncomputable def o214 (P : Params) : Obj := ⟨.none, none, (.func (fn (cell 20) (u "law") 0 [] .none .none .none .none none .none .none 0)), #[]⟩
noncomputable def o215 (P : Params) : Obj := ⟨(.type "code"), none, (.fields #[(.str (u "law") 2395), (.str (u "law") 2396), (.str (u "/claim/cut.py") 2397), (.int 139 0), (.int 1 0), (.int 0 0), (.int 0 0), (.int 3 0), (.ref 212), (.bool true), (.int 181 0), (.ref 213), .none, .none, .none, (.ref 214), (.int 2398 0), (.int 139 0), (.str (u "/claim/cut.py") 2399)]), #[]⟩
noncomputable def o216 (P : Params) : Obj := ⟨(.type "function"), none, (.func (fn (cell 20) (u "law") 3 [] .none .none .none (.str (u "law_wr0051_01") 2361) none (.ref 215) .none 0)), #[]⟩
noncomputable def treeG (P : Params) : BT := (.node (boot_o_0 P) (.node (boot_o_1 P) (.node (o3G P) (.node (boot_o_7 P) (.node (o15 P) (.node (o31 P) (.node (dOb 23) (.node (o127 P) .nil .nil) (.node (o191 P) .nil .nil)) (.node (o95 P) (.node (o159 P) .nil .nil) .nil)) (.node (dOb 7) (.node (o79 P) (.node (o143 P) .nil .nil) (.node (o207 P) .nil .nil)) (.node (o111 P) (.node (o175 P) .nil .nil) .nil))) (.node (o23 P) (.node (o39 P) (.node (dOb 31) (.node (o135 P) .nil .nil) (.node (o199 P) .nil .nil)) (.node (o103 P) (.node (o167 P) .nil .nil) .nil)) (.node (dOb 15) (.node (o87 P) (.node (o151 P) .nil .nil) (.node (o215 P) .nil .nil)) (.node (o119 P) (.node (o183 P) .nil .nil) .nil)))) (.node (o11 P) (.node (o19 P) (.node (o35 P) (.node (dOb 27) (.node (o131 P) .nil .nil) (.node (o195 P) .nil .nil)) (.node (o99 P) (.node (o163 P) .nil .nil) .nil)) (.node (dOb 11) (.node (o83 P) (.node (o147 P) .nil .nil) (.node (o211 P) .nil .nil)) (.node (o115 P) (.node (o179 P) .nil .nil) .nil))) (.node (o27 P) (.node (dOb 3) (.node (dOb 35) (.node (o139 P) .nil .nil) (.node (o203 P) .nil .nil)) (.node (o107 P) (.node (o171 P) .nil .nil) .nil)) (.node (dOb 19) (.node (o91 P) (.node (o155 P) .nil .nil) .nil) (.node (o123 P) (.node (o187 P) .nil .nil) .nil))))) (.node (boot_o_5 P) (.node (boot_o_9 P) (.node (o17 P) (.node (o33 P) (.node (dOb 25) (.node (o129 P) .nil .nil) (.node (o193 P) .nil .nil)) (.node (o97 P) (.node (o161 P) .nil .nil) .nil)) (.node (dOb 9) (.node (o81 P) (.node (o145 P) .nil .nil) (.node (o209 P) .nil .nil)) (.node (o113 P) (.node (o177 P) .nil .nil) .nil))) (.node (o25 P) (.node (dOb 1) (.node (dOb 33) (.node (o137 P) .nil .nil) (.node (o201 P) .nil .nil)) (.node (o105 P) (.node (o169 P) .nil .nil) .nil)) (.node (dOb 17) (.node (o89 P) (.node (o153 P) .nil .nil) .nil) (.node (o121 P) (.node (o185 P) .nil .nil) .nil)))) (.node (o13 P) (.node (o21 P) (.node (o37 P) (.node (dOb 29) (.node (o133 P) .nil .nil) (.node (o197 P) .nil .nil)) (.node (o101 P) (.node (o165 P) .nil .nil) .nil)) (.node (dOb 13) (.node (o85 P) (.node (o149 P) .nil .nil) (.node (o213 P) .nil .nil)) (.node (o117 P) (.node (o181 P) .nil .nil) .nil))) (.node (o29 P) (.node (dOb 5) (.node (dOb 37) (.node (o141 P) .nil .nil) (.node (o205 P) .nil .nil)) (.node (o109 P) (.node (o173 P) .nil .nil) .nil)) (.node (dOb 21) (.node (o93 P) (.node (o157 P) .nil .nil) .nil) (.node (o125 P) (.node (o189 P) .nil .nil) .nil)))))) (.node (boot_o_2 P) (.node (boot_o_4 P) (.node (boot_o_8 P) (.node (o16 P) (.node (o32 P) (.node (dOb 24) (.node (o128 P) .nil .nil) (.node (o192 P) .nil .nil)) (.node (o96 P) (.node (o160 P) .nil .nil) .nil)) (.node (dOb 8) (.node (o80 P) (.node (o144 P) .nil .nil) (.node (o208 P) .nil .nil)) (.node (o112 P) (.node (o176 P) .nil .nil) .nil))) (.node (o24 P) (.node (dOb 0) (.node (dOb 32) (.node (o136 P) .nil .nil) (.node (o200 P) .nil .nil)) (.node (o104 P) (.node (o168 P) .nil .nil) .nil)) (.node (dOb 16) (.node (o88 P) (.node (o152 P) .nil .nil) (.node (o216 P) .nil .nil)) (.node (o120 P) (.node (o184 P) .nil .nil) .nil)))) (.node (o12G P) (.node (o20 P) (.node (o36 P) (.node (dOb 28) (.node (o132 P) .nil .nil) (.node (o196 P) .nil .nil)) (.node (o100 P) (.node (o164 P) .nil .nil) .nil)) (.node (dOb 12) (.node (o84 P) (.node (o148 P) .nil .nil) (.node (o212 P) .nil .nil)) (.node (o116 P) (.node (o180 P) .nil .nil) .nil))) (.node (o28 P) (.node (dOb 4) (.node (dOb 36) (.node (o140 P) .nil .nil) (.node (o204 P) .nil .nil)) (.node (o108 P) (.node (o172 P) .nil .nil) .nil)) (.node (dOb 20) (.node (o92 P) (.node (o156 P) .nil .nil) .nil) (.node (o124 P) (.node (o188 P) .nil .nil) .nil))))) (.node (boot_o_6 P) (.node (boot_o_10 P) (.node (o18 P) (.node (o34 P) (.node (dOb 26) (.node (o130 P) .nil .nil) (.node (o194 P) .nil .nil)) (.node (o98 P) (.node (o162 P) .nil .nil) .nil)) (.node (dOb 10) (.node (o82 P) (.node (o146 P) .nil .nil) (.node (o210 P) .nil .nil)) (.node (o114 P) (.node (o178 P) .nil .nil) .nil))) (.node (o26 P) (.node (dOb 2) (.node (dOb 34) (.node (o138 P) .nil .nil) (.node (o202 P) .nil .nil)) (.node (o106 P) (.node (o170 P) .nil .nil) .nil)) (.node (dOb 18) (.node (o90 P) (.node (o154 P) .nil .nil) .nil) (.node (o122 P) (.node (o186 P) .nil .nil) .nil)))) (.node (o14 P) (.node (o22 P) (.node (o38 P) (.node (dOb 30) (.node (o134 P) .nil .nil) (.node (o198 P) .nil .nil)) (.node (o102 P) (.node (o166 P) .nil .nil) .nil)) (.node (dOb 14) (.node (o86 P) (.node (o150 P) .nil .nil) (.node (o214 P) .nil .nil)) (.node (o118 P) (.node (o182 P) .nil .nil) .nil))) (.node (o30 P) (.node (dOb 6) (.node (dOb 38) (.node (o142 P) .nil .nil) (.node (o206 P) .nil .nil)) (.node (o110 P) (.node (o174 P) .nil .nil) .nil)) (.node (dOb 22) (.node (o94 P) (.node (o158 P) .nil .nil) .nil) (.node (o126 P) (.node (o190 P) .nil .nil) .nil)))))))
noncomputable def SG (w : World) (os : OsState) : SharedT := ⟨treeG w.params, 217, life, ⟨[]⟩, boot_drawn, 2401, os⟩
noncomputable def posG : Pos := ⟨139, 0, 184, 16⟩

noncomputable def env1 : Env := { scope := P₁.main.scope, locals := mainNs, globals := mainNs, cells := [], code := .ref 13, frame := some 14 }
noncomputable abbrev bE : List Stmt := behindTheImports P₁
noncomputable abbrev cE : Code := .body bE env1
noncomputable abbrev fr : List Frame := [topFrame ⟨0, 0, 0, 0⟩]
noncomputable abbrev run (w : World) (n : Nat) (s : SharedT) (t : Thread) := segRunT treeTable P₁ w 11 (some (.ref 6)) 1 n s t
noncomputable abbrev th (l : List Stmt) (q : Pos) : Thread := piecesOf l env1 cE q fr
end
end Mine
set_option maxRecDepth 100000
set_option maxHeartbeats 0
namespace Mine
open PySem PySem.W PyProof.Rows
theorem pieceA (w : World) (os : OsState) : run w 39 (Sblk w os) (th [cell 0, cell 1] posblk) = some (.next, SA w os, cE, posA) := by
  unfold run; rw [PySem.W.Fast.te10110043849684766642, PySem.W.Fast.te14364793385576792824]; kernel_rfl
theorem pieceC (w : World) (os : OsState) : run w 30 (SB w os) (th [cell 3] posB) = some (.next, SC w os, cE, posC) := by
  unfold run; rw [PySem.W.Fast.te10110043849684766642, PySem.W.Fast.te14364793385576792824]; kernel_rfl
end Mine
set_option maxRecDepth 100000
set_option maxHeartbeats 0
namespace Mine
open PySem PySem.W PyProof.Rows
theorem pieceE (w : World) (os : OsState) : run w 101 (SD w os) (th [cell 5, cell 6, cell 7, cell 8, cell 9, cell 10] posD) = some (.next, SE w os, cE, posE) := by
  unfold run; rw [PySem.W.Fast.te10110043849684766642, PySem.W.Fast.te14364793385576792824]; kernel_rfl
theorem pieceF (w : World) (os : OsState) : run w 505 (SE w os) (th [cell 11] posE) = some (.next, SF w os, cE, posF) := by
  unfold run; rw [PySem.W.Fast.te10110043849684766642, PySem.W.Fast.te14364793385576792824]; kernel_rfl
theorem pieceG (w : World) (os : OsState) : run w 215 (SF w os) (th [cell 12, cell 13, cell 14, cell 15, cell 16, cell 17, cell 18, cell 19, cell 20] posF) = some (.next, SG w os, cE, posG) := by
  unfold run; rw [PySem.W.Fast.te10110043849684766642, PySem.W.Fast.te14364793385576792824]; kernel_rfl
end Mine
set_option maxRecDepth 100000
set_option maxHeartbeats 0
namespace Mine
open PySem PySem.W PyProof.Rows
noncomputable abbrev wB (w : World) (a b : Bool) : World := (w.withFollow "special-get-raises" b).withFollow "set-order" a
theorem pieceB1 (w : World) (os : OsState) : run (wB w false false) 999 (SA (wB w false false) os) (th [cell 2] posA) = some (.next, SB (wB w false false) os, cE, posB) := by
  unfold run; rw [PySem.W.Fast.te10110043849684766642, PySem.W.Fast.te14364793385576792824]; kernel_rfl
theorem pieceB2 (w : World) (os : OsState) : run (wB w false true) 999 (SA (wB w false true) os) (th [cell 2] posA) = some (.next, SB (wB w false true) os, cE, posB) := by
  unfold run; rw [PySem.W.Fast.te10110043849684766642, PySem.W.Fast.te14364793385576792824]; kernel_rfl
theorem pieceB3 (w : World) (os : OsState) : run (wB w true false) 999 (SA (wB w true false) os) (th [cell 2] posA) = some (.next, SB (wB w true false) os, cE, posB) := by
  unfold run; rw [PySem.W.Fast.te10110043849684766642, PySem.W.Fast.te14364793385576792824]; kernel_rfl
theorem pieceB4 (w : World) (os : OsState) : run (wB w true true) 999 (SA (wB w true true) os) (th [cell 2] posA) = some (.next, SB (wB w true true) os, cE, posB) := by
  unfold run; rw [PySem.W.Fast.te10110043849684766642, PySem.W.Fast.te14364793385576792824]; kernel_rfl
theorem pieceB (w : World) (os : OsState) : run w 999 (SA w os) (th [cell 2] posA) = some (.next, SB w os, cE, posB) :=
  byRow2 "set-order" (P := fun w => run w 999 (SA w os) (th [cell 2] posA) = some (.next, SB w os, cE, posB))
    (byRow2 "special-get-raises" (P := fun w => run (w.withFollow "set-order" false) 999 (SA (w.withFollow "set-order" false) os) (th [cell 2] posA) = some (.next, SB (w.withFollow "set-order" false) os, cE, posB)) (fun w => pieceB1 w os) fun w => pieceB2 w os)
    (byRow2 "special-get-raises" (P := fun w => run (w.withFollow "set-order" true) 999 (SA (w.withFollow "set-order" true) os) (th [cell 2] posA) = some (.next, SB (w.withFollow "set-order" true) os, cE, posB)) (fun w => pieceB3 w os) fun w => pieceB4 w os) w
end Mine
set_option maxRecDepth 100000
set_option maxHeartbeats 0
namespace Mine
open PySem PySem.W PyProof.Rows

noncomputable def goodT : List (Option Expr) → List Expr → Bool
  | [], [] => true
  | some (.Constant (.int _) _ _) :: ks, .Constant (.str _) _ _ :: vs => goodT ks vs
  | _, _ => false
theorem items_tab (pos : Pos) (env : Env) : ∀ (ks : List (Option Expr)) (vs : List Expr), goodT ks vs = true →
    (evalEachOpt ks env).zip ((evalEach vs env).map fun v => do let x ← v; standAt pos; pure x) = items pos (tabOf ks vs) := by
  intro ks
  induction ks with
  | nil => intro vs h; rfl
  | cons k ks ih =>
    intro vs h
    unfold goodT at h
    split at h
    · rename_i e; cases e
    · rename_i i p1 p2 ks' s q1 q2 vs' e
      cases e
      show (_, _) :: (evalEachOpt ks env).zip ((evalEach vs' env).map _) = (some (kS (i, s)), vS pos (i, s)) :: items pos (tabOf ks vs')
      rw [ih vs' h]
      rfl
    · cases h

noncomputable def tailD (ts : List Expr) (v : Expr) (env : Env) (x : Value) : Sem Flow := swappedStores ts v env >>= fun sw => assignStores env x sw ((assignEach ts env).map (·.2))
theorem exec_dict {ts : List Expr} {ks : List (Option Expr)} {vs : List Expr} {dpos apos : Pos} {env : Env} (h1 : swapsWithSole ts (.Dict ks vs dpos) apos.line env = pure false) (h2 : goodT ks vs = true) :
    exec (.Assign ts (.Dict ks vs dpos) apos) env = (standAt apos >>= fun _ => standAt dpos >>= fun _ => dictDisplay (items dpos (tabOf ks vs))) >>= tailD ts (.Dict ks vs dpos) env := by
  show (standAt apos >>= fun _ => swapsWithSole ts (.Dict ks vs dpos) apos.line env >>= fun b => if b = true then _ else _) = _
  rw [h1]
  show (standAt apos >>= fun _ => (standAt dpos >>= fun _ => dictDisplay ((evalEachOpt ks env).zip ((evalEach vs env).map fun v => do let x ← v; standAt dpos; pure x))) >>= _) = _
  rw [items_tab dpos env ks vs h2]
  rfl

noncomputable def sorted : List (Int × Str) → Bool
  | x :: y :: r => decide (x.1 < y.1) && sorted (y :: r)
  | _ => true
theorem sorted_head : ∀ (r : List (Int × Str)) (x : Int × Str), sorted (x :: r) = true → ∀ y ∈ r, x.1 < y.1
  | [], _, _, _, h => nomatch h
  | z :: r, x, h, y, hy => by
    obtain ⟨h1, h2⟩ := Bool.and_eq_true_iff.mp h
    have hxz : x.1 < z.1 := of_decide_eq_true h1
    rcases List.mem_cons.mp hy with rfl | hy
    · exact hxz
    · exact Int.lt_trans hxz (sorted_head r z h2 y hy)
theorem sorted_tail {x : Int × Str} {r : List (Int × Str)} (h : sorted (x :: r) = true) : sorted r = true := by
  cases r with
  | nil => rfl
  | cons y r => exact (Bool.and_eq_true_iff.mp h).2
theorem hashInt_small {i : Int} (h0 : 0 ≤ i) (h1 : i < 1000000) : hashInt i = i := by
  have e : rawHash i = i := by
    unfold rawHash
    have e1 : ((i.natAbs : Int) % ((2 ^ 61 - 1 : Nat) : Int)) = i := by omega
    dsimp only
    have e2 : (if i < 0 then -i else i) = i := if_neg (by omega)
    rw [e1, e2, if_neg (by rw [beq_iff_eq]; omega)]
  unfold hashInt
  rw [e, if_neg (by rw [beq_iff_eq]; omega)]
theorem apart_sorted : ∀ (r : List (Int × Str)), sorted r = true → (∀ x ∈ r, 0 ≤ x.1 ∧ x.1 < 1000000) → (r.map fun x => hashInt x.1).Nodup
  | [], _, _ => List.nodup_nil
  | x :: r, h, hb => by
    rw [List.map_cons, List.nodup_cons]
    refine ⟨fun hm => ?_, apart_sorted r (sorted_tail h) fun y hy => hb y (.tail _ hy)⟩
    obtain ⟨y, hy, e⟩ := List.mem_map.mp hm
    have l := sorted_head r x h y hy
    have bx := hb x (.head _)
    have by' := hb y (.tail _ hy)
    rw [hashInt_small bx.1 bx.2, hashInt_small by'.1 by'.2] at e
    omega
noncomputable def inRange (r : List (Int × Str)) : Bool := r.all fun x => decide (0 ≤ x.1) && decide (x.1 < 1000000)

theorem tbl_sorted : sorted tbl = true := by decide +kernel
theorem tbl_range : inRange tbl = true := by decide +kernel
theorem tbl_apart : apart [] tbl := by
  unfold apart
  refine apart_sorted tbl tbl_sorted fun x hx => ?_
  have := List.all_eq_true.mp tbl_range x hx
  simp only [Bool.and_eq_true, decide_eq_true_eq] at this
  exact this
theorem tbl_len : tbl.length = 650 := by decide +kernel
theorem tbl_parts : tblF ++ tblR = tbl := List.take_append_drop 17 tbl
theorem tblF_len : tblF.length = 17 := by decide +kernel
theorem wk_rc : wk.rc.length = 4 := by decide +kernel
theorem wk_t : wk.t = 2201 := by decide +kernel
theorem cost_R : costE tblR [] = 12210 := by decide +kernel
theorem b3es_len : b3es.length = 650 := by decide +kernel

noncomputable def targetsOf : Stmt → List Expr
  | .Assign ts _ _ => ts
  | _ => []
noncomputable def valueOf : Stmt → Expr
  | .Assign _ v _ => v
  | _ => .Tuple [] 0 default
noncomputable def posOf : Stmt → Pos
  | .Assign _ _ p => p
  | _ => default
noncomputable def dictPos : Stmt → Pos
  | .Assign _ (.Dict _ _ p) _ => p
  | _ => default
theorem cell4 : cell 4 = .Assign (targetsOf (cell 4)) (.Dict (dictKs (cell 4)) (dictVs (cell 4)) (dictPos (cell 4))) (posOf (cell 4)) := by kernel_rfl
theorem good4 : goodT (dictKs (cell 4)) (dictVs (cell 4)) = true := by decide +kernel
theorem sole4 : swapsWithSole (targetsOf (cell 4)) (.Dict (dictKs (cell 4)) (dictVs (cell 4)) (dictPos (cell 4))) (posOf (cell 4)).line env1 = pure false := by kernel_rfl
end Mine
set_option maxRecDepth 100000
set_option maxHeartbeats 0
namespace Mine
open PySem PySem.W PyProof.Rows
noncomputable section
noncomputable def dP : Pos := dictPos (cell 4)
noncomputable def tail4 (v : Value) : Sem Flow := tailD (targetsOf (cell 4)) (.Dict (dictKs (cell 4)) (dictVs (cell 4)) (dictPos (cell 4))) env1 v

theorem exec4 : exec (cell 4) env1 = (standAt (posOf (cell 4)) >>= fun _ => standAt dP >>= fun _ => dictDisplay (items dP tbl)) >>= tail4 := by
  have h := exec_dict (apos := posOf (cell 4)) sole4 good4
  rw [← cell4] at h
  exact h

variable (w : World) (os : OsState)
noncomputable def s0 : Shared := st (L0 w.params) life ⟨[]⟩ boot_drawn os [] 263
noncomputable def s1 : Shared := st (L0 w.params) life ⟨[]⟩ boot_drawn os dObs 2213
theorem Ex4 : Ex P₁ w (2 + 12515) (standAt (posOf (cell 4)) >>= fun _ => standAt dP >>= fun _ => dictDisplay (items dP tbl)) (s0 w os) posC (.ref 40) (s1 w os) dP := by
  have z := Ex_display (p := P₁) (w := w) (gs := ⟨[]⟩) (dr := boot_drawn) (os := os) (pos := dP) (life := life) (t := 263) (L₀ := L0 w.params) (f := tblF) (r := tblR) (k := wk) rfl tblF_len rfl (by intro e; have := wk_rc; rw [e] at this; cases this) (by rw [wk_rc]; decide) (by rw [tbl_parts]; exact tbl_apart) (by rw [tbl_parts, tbl_len]; decide)
  rw [tbl_parts, cost_R] at z
  have e : st (L0 w.params) life ⟨[]⟩ boot_drawn os (dictOf (wk.es ++ ents2 wk.rc wk.t) (wk.es ++ ents2 wk.rc wk.t).length :: (wk.N ++ [dictOf (ents2 wk.rc wk.t) wk.rc.length])) (wk.t + 3 * wk.rc.length) = s1 w os := by
    have e1 : (wk.es ++ ents2 wk.rc wk.t).length = 650 := b3es_len
    rw [e1, wk_t, wk_rc]
    unfold s1 dObs b3es
    rw [wk_t, wk_rc]
  rw [e, wk_rc] at z
  rw [show 2 + 12515 = 1 + (1 + (223 + 12210 + (1 + 13 * 4 + (5 + 6 * 4 + 0) + 0))) by decide]
  refine Ex.bind (m := standAt _) (n₁ := 1) (Ex.at .pure) ?_
  exact Ex.bind (m := standAt _) (n₁ := 1) (Ex.at .pure) z

theorem start4 : (SC w os).abs = s0 w os := by kernel_rfl
theorem tail4_run : segRun treeTable P₁ w 11 (some (.ref 6)) 1 8 (s1 w os) ⟨(tail4 (.ref 40)).wrap doneF deadEnd id id, cE, dP, fr⟩ = some (.next, (SD w os).abs, cE, posD) := by
  rw [PySem.W.Fast.te14374325043358763698, PySem.W.Fast.te14364793385576792824]; kernel_rfl
theorem pieceD : segRun treeTable P₁ w 11 (some (.ref 6)) 1 (2 + 12515 + 8) (SC w os).abs (pieceOf (cell 4) env1 cE posC fr) = some (.next, (SD w os).abs, cE, posD) := by
  rw [start4]
  unfold pieceOf
  rw [exec4, Sem.bind_eq_wrap', Sem.wrap_wrap]
  exact seg_go ((Ex4 w os).run _ bE env1 _) (tail4_run w os)
end
end Mine
set_option maxRecDepth 100000
set_option maxHeartbeats 0
namespace Mine
open PySem PySem.W PyProof.Rows
noncomputable section
variable (w : World) (os : OsState)
noncomputable def Sboot : Shared := ⟨boot_heap w.params, ⟨[]⟩, boot_drawn, boot_toks, os⟩
noncomputable def Spre : Shared := ⟨heap_pre w.params, ⟨[]⟩, boot_drawn, 187, os⟩
theorem top_pre : topGo treeTable P₁ w 11 (some (.ref 6)) 12 (Sboot w os) (topStub P₁) = some (Spre w os, ⟨denote treeTable cE, cE, pospre, fr⟩) := by
  rw [PySem.W.Fast.te15667345088766844465, PySem.W.Fast.te14364793385576792824, PySem.W.Fast.te11892475500146522536]; kernel_rfl
theorem top_block : segRun treeTable P₁ w 11 (some (.ref 6)) 1 1 (Spre w os) (blockOf bE env1 cE pospre fr) = some (.next, (Sblk w os).abs, cE, posblk) := by
  rw [PySem.W.Fast.te14374325043358763698, PySem.W.Fast.te14364793385576792824]; kernel_rfl
theorem top_fin : topRun treeTable P₁ w 11 (some (.ref 6)) 2 (SG w os).abs ⟨doneF .next, cE, posG, fr⟩ = some (SG w os).abs := by
  rw [PySem.W.Fast.te14082659384304107361, PySem.W.Fast.te14364793385576792824]; kernel_rfl
noncomputable def gA : List Stmt := [cell 0, cell 1]
noncomputable def gE : List Stmt := [cell 5, cell 6, cell 7, cell 8, cell 9, cell 10]
noncomputable def gG : List Stmt := [cell 12, cell 13, cell 14, cell 15, cell 16, cell 17, cell 18, cell 19, cell 20]
theorem body_parts : bE = gA ++ ([cell 2] ++ ([cell 3] ++ (cell 4 :: (gE ++ ([cell 11] ++ (gG ++ [])))))) := by kernel_rfl
noncomputable def topSteps : Nat := 12 + (1 + (39 + (999 + (30 + ((2 + 12515 + 8) + (101 + (505 + (215 + 2))))))))
theorem top_run : topRun treeTable P₁ w 11 (some (.ref 6)) topSteps (Sboot w os) (topStub P₁) = some (SG w os).abs := by
  refine go_top (top_pre w os) ?_
  refine piece_block (top_block w os) ?_
  rw [body_parts]
  refine piece_app (segRun_of (pieceA w os)) ?_
  refine piece_app (segRun_of (pieceB w os)) ?_
  refine piece_app (segRun_of (pieceC w os)) ?_
  refine piece_cons (pieceD w os) ?_
  refine piece_app (segRun_of (pieceE w os)) ?_
  refine piece_app (segRun_of (pieceF w os)) ?_
  refine piece_app (segRun_of (pieceG w os)) ?_
  exact top_fin w os
end
end Mine
set_option maxRecDepth 100000
set_option maxHeartbeats 0
namespace Mine
open PySem PySem.W PyProof.Rows
set_option linter.unusedVariables false
noncomputable section
noncomputable def KK (P : Params) : Frag := ((nat_lit 2 : Nat), boot_o_2 P) :: ((nat_lit 3 : Nat), o3G P) :: ((nat_lit 15 : Nat), o15 P) :: ((nat_lit 17 : Nat), o17 P) :: ((nat_lit 18 : Nat), o18 P) :: ((nat_lit 20 : Nat), o20 P) :: ((nat_lit 21 : Nat), o21 P) :: ((nat_lit 29 : Nat), o29 P) :: ((nat_lit 33 : Nat), o33 P) :: ((nat_lit 35 : Nat), o35 P) :: ((nat_lit 36 : Nat), o36 P) :: ((nat_lit 38 : Nat), o38 P) :: ((nat_lit 39 : Nat), o39 P) :: ((nat_lit 40 : Nat), dOb 0) :: ((nat_lit 79 : Nat), o79 P) :: ((nat_lit 81 : Nat), o81 P) :: ((nat_lit 82 : Nat), o82 P) :: ((nat_lit 84 : Nat), o84 P) :: ((nat_lit 85 : Nat), o85 P) :: ((nat_lit 86 : Nat), o86 P) :: ((nat_lit 88 : Nat), o88 P) :: ((nat_lit 89 : Nat), o89 P) :: ((nat_lit 91 : Nat), o91 P) :: ((nat_lit 92 : Nat), o92 P) :: ((nat_lit 93 : Nat), o93 P) :: ((nat_lit 96 : Nat), o96 P) :: ((nat_lit 101 : Nat), o101 P) :: ((nat_lit 102 : Nat), o102 P) :: ((nat_lit 103 : Nat), o103 P) :: ((nat_lit 105 : Nat), o105 P) :: ((nat_lit 106 : Nat), o106 P) :: ((nat_lit 108 : Nat), o108 P) :: ((nat_lit 109 : Nat), o109 P) :: ((nat_lit 110 : Nat), o110 P) :: ((nat_lit 112 : Nat), o112 P) :: ((nat_lit 113 : Nat), o113 P) :: ((nat_lit 115 : Nat), o115 P) :: ((nat_lit 116 : Nat), o116 P) :: ((nat_lit 117 : Nat), o117 P) :: ((nat_lit 118 : Nat), o118 P) :: ((nat_lit 120 : Nat), o120 P) :: ((nat_lit 121 : Nat), o121 P) :: ((nat_lit 123 : Nat), o123 P) :: ((nat_lit 124 : Nat), o124 P) :: ((nat_lit 125 : Nat), o125 P) :: ((nat_lit 126 : Nat), o126 P) :: ((nat_lit 128 : Nat), o128 P) :: ((nat_lit 129 : Nat), o129 P) :: ((nat_lit 131 : Nat), o131 P) :: ((nat_lit 132 : Nat), o132 P) :: ((nat_lit 133 : Nat), o133 P) :: ((nat_lit 135 : Nat), o135 P) :: ((nat_lit 136 : Nat), o136 P) :: ((nat_lit 138 : Nat), o138 P) :: ((nat_lit 139 : Nat), o139 P) :: ((nat_lit 140 : Nat), o140 P) :: ((nat_lit 142 : Nat), o142 P) :: ((nat_lit 143 : Nat), o143 P) :: ((nat_lit 145 : Nat), o145 P) :: ((nat_lit 146 : Nat), o146 P) :: ((nat_lit 147 : Nat), o147 P) :: ((nat_lit 148 : Nat), o148 P) :: ((nat_lit 150 : Nat), o150 P) :: ((nat_lit 151 : Nat), o151 P) :: ((nat_lit 153 : Nat), o153 P) :: ((nat_lit 154 : Nat), o154 P) :: ((nat_lit 155 : Nat), o155 P) :: ((nat_lit 157 : Nat), o157 P) :: ((nat_lit 158 : Nat), o158 P) :: ((nat_lit 160 : Nat), o160 P) :: ((nat_lit 161 : Nat), o161 P) :: ((nat_lit 162 : Nat), o162 P) :: ((nat_lit 163 : Nat), o163 P) :: ((nat_lit 165 : Nat), o165 P) :: ((nat_lit 166 : Nat), o166 P) :: ((nat_lit 168 : Nat), o168 P) :: ((nat_lit 169 : Nat), o169 P) :: ((nat_lit 170 : Nat), o170 P) :: ((nat_lit 171 : Nat), o171 P) :: ((nat_lit 172 : Nat), o172 P) :: ((nat_lit 173 : Nat), o173 P) :: ((nat_lit 174 : Nat), o174 P) :: ((nat_lit 177 : Nat), o177 P) :: ((nat_lit 179 : Nat), o179 P) :: ((nat_lit 180 : Nat), o180 P) :: ((nat_lit 182 : Nat), o182 P) :: ((nat_lit 183 : Nat), o183 P) :: ((nat_lit 184 : Nat), o184 P) :: ((nat_lit 186 : Nat), o186 P) :: ((nat_lit 187 : Nat), o187 P) :: ((nat_lit 189 : Nat), o189 P) :: ((nat_lit 190 : Nat), o190 P) :: ((nat_lit 191 : Nat), o191 P) :: ((nat_lit 193 : Nat), o193 P) :: ((nat_lit 194 : Nat), o194 P) :: ((nat_lit 196 : Nat), o196 P) :: ((nat_lit 197 : Nat), o197 P) :: ((nat_lit 198 : Nat), o198 P) :: ((nat_lit 200 : Nat), o200 P) :: ((nat_lit 201 : Nat), o201 P) :: ((nat_lit 203 : Nat), o203 P) :: ((nat_lit 204 : Nat), o204 P) :: ((nat_lit 205 : Nat), o205 P) :: ((nat_lit 207 : Nat), o207 P) :: ((nat_lit 208 : Nat), o208 P) :: ((nat_lit 210 : Nat), o210 P) :: ((nat_lit 211 : Nat), o211 P) :: ((nat_lit 212 : Nat), o212 P) :: ((nat_lit 215 : Nat), o215 P) :: ((nat_lit 216 : Nat), o216 P) :: []
noncomputable def asK : List Addr := (nat_lit 2 : Nat) :: (nat_lit 3 : Nat) :: (nat_lit 15 : Nat) :: (nat_lit 17 : Nat) :: (nat_lit 18 : Nat) :: (nat_lit 20 : Nat) :: (nat_lit 21 : Nat) :: (nat_lit 29 : Nat) :: (nat_lit 33 : Nat) :: (nat_lit 35 : Nat) :: (nat_lit 36 : Nat) :: (nat_lit 38 : Nat) :: (nat_lit 39 : Nat) :: (nat_lit 40 : Nat) :: (nat_lit 79 : Nat) :: (nat_lit 81 : Nat) :: (nat_lit 82 : Nat) :: (nat_lit 84 : Nat) :: (nat_lit 85 : Nat) :: (nat_lit 86 : Nat) :: (nat_lit 88 : Nat) :: (nat_lit 89 : Nat) :: (nat_lit 91 : Nat) :: (nat_lit 92 : Nat) :: (nat_lit 93 : Nat) :: (nat_lit 96 : Nat) :: (nat_lit 101 : Nat) :: (nat_lit 102 : Nat) :: (nat_lit 103 : Nat) :: (nat_lit 105 : Nat) :: (nat_lit 106 : Nat) :: (nat_lit 108 : Nat) :: (nat_lit 109 : Nat) :: (nat_lit 110 : Nat) :: (nat_lit 112 : Nat) :: (nat_lit 113 : Nat) :: (nat_lit 115 : Nat) :: (nat_lit 116 : Nat) :: (nat_lit 117 : Nat) :: (nat_lit 118 : Nat) :: (nat_lit 120 : Nat) :: (nat_lit 121 : Nat) :: (nat_lit 123 : Nat) :: (nat_lit 124 : Nat) :: (nat_lit 125 : Nat) :: (nat_lit 126 : Nat) :: (nat_lit 128 : Nat) :: (nat_lit 129 : Nat) :: (nat_lit 131 : Nat) :: (nat_lit 132 : Nat) :: (nat_lit 133 : Nat) :: (nat_lit 135 : Nat) :: (nat_lit 136 : Nat) :: (nat_lit 138 : Nat) :: (nat_lit 139 : Nat) :: (nat_lit 140 : Nat) :: (nat_lit 142 : Nat) :: (nat_lit 143 : Nat) :: (nat_lit 145 : Nat) :: (nat_lit 146 : Nat) :: (nat_lit 147 : Nat) :: (nat_lit 148 : Nat) :: (nat_lit 150 : Nat) :: (nat_lit 151 : Nat) :: (nat_lit 153 : Nat) :: (nat_lit 154 : Nat) :: (nat_lit 155 : Nat) :: (nat_lit 157 : Nat) :: (nat_lit 158 : Nat) :: (nat_lit 160 : Nat) :: (nat_lit 161 : Nat) :: (nat_lit 162 : Nat) :: (nat_lit 163 : Nat) :: (nat_lit 165 : Nat) :: (nat_lit 166 : Nat) :: (nat_lit 168 : Nat) :: (nat_lit 169 : Nat) :: (nat_lit 170 : Nat) :: (nat_lit 171 : Nat) :: (nat_lit 172 : Nat) :: (nat_lit 173 : Nat) :: (nat_lit 174 : Nat) :: (nat_lit 177 : Nat) :: (nat_lit 179 : Nat) :: (nat_lit 180 : Nat) :: (nat_lit 182 : Nat) :: (nat_lit 183 : Nat) :: (nat_lit 184 : Nat) :: (nat_lit 186 : Nat) :: (nat_lit 187 : Nat) :: (nat_lit 189 : Nat) :: (nat_lit 190 : Nat) :: (nat_lit 191 : Nat) :: (nat_lit 193 : Nat) :: (nat_lit 194 : Nat) :: (nat_lit 196 : Nat) :: (nat_lit 197 : Nat) :: (nat_lit 198 : Nat) :: (nat_lit 200 : Nat) :: (nat_lit 201 : Nat) :: (nat_lit 203 : Nat) :: (nat_lit 204 : Nat) :: (nat_lit 205 : Nat) :: (nat_lit 207 : Nat) :: (nat_lit 208 : Nat) :: (nat_lit 210 : Nat) :: (nat_lit 211 : Nat) :: (nat_lit 212 : Nat) :: (nat_lit 215 : Nat) :: (nat_lit 216 : Nat) :: []

theorem asK_eq (P : Params) : asK = (KK P).map (·.1) := rfl
noncomputable def q₁ : Program := { P₁ with main := { P₁.main with body := [cell 0, cell 3, cell 5, cell 7, cell 8, cell 10, cell 13, cell 14, cell 15, cell 17, cell 18, cell 19, cell 20] } }
noncomputable def loose₁ : List Str := [u "b1_set", u "b3_exceptions", u "_Accumulator"]
noncomputable def KX (P : Params) : Frag := ((nat_lit 134 : Nat), o134 P) :: ((nat_lit 141 : Nat), o141 P) :: KK P
noncomputable def asX : List Addr := (nat_lit 134 : Nat) :: (nat_lit 141 : Nat) :: asK
theorem asX_eq (P : Params) : asX = (KX P).map (·.1) := rfl
noncomputable def H₁ : Hook := kHook KX asX asX_eq
noncomputable abbrev Xt₁ : Shared → Bool := fun s => xlAt q₁ [] s && recOk (RowW.records PySem.Challenge.rw_wr0051_01.row.toRowW) s
noncomputable def Hend (P : Params) : Heap := absHeap (treeG P) 217 life
variable (w : World) (os : OsState)
noncomputable def Send : Shared := ⟨Hend w.params, ⟨[]⟩, boot_drawn, 2401, os⟩
theorem look1 : (staticsOk (importedModules P₁.main.body) (boot_heap w.params) (Hend w.params) && namesBound P₁ (Hend w.params) && gensDone (Send w os) && laidKept (boot_heap w.params) (Hend w.params)) = true := by kernel_rfl
theorem look3 : H₁.obs (Send w os) = H₁.val w := by kernel_rfl
theorem look2 : openSeen q₁ loose₁ (importedModules P₁.main.body) Xt₁ true (Send w os) = openGood q₁ loose₁ := by
  rw [PySem.W.Fast.te4187177175401517315]; kernel_rfl
end
end Mine
set_option maxRecDepth 100000
set_option maxHeartbeats 8000000
namespace Mine
open PySem PySem.W PyProof.Rows
theorem left₁ : LeftO P₁ q₁ loose₁ Xt₁ (Hook.obs H₁) (Hook.val H₁) 20000 := by
  refine LeftO.of_pieces (H₀ := boot_heap) (H₁ := Hend) (gs₀ := ⟨[]⟩) (gs₁ := ⟨[]⟩) (d₀ := boot_drawn) (d₁ := boot_drawn) (k₀ := boot_toks) (k₁ := 2401) (m₀ := 11) (ann := some (.ref 6)) (M := topSteps) ?_ ?_ ?_ ?_ ?_
  · exact boot_open (by kernel_rfl) (by decide) fun s => rfl
  · intro w; kernel_rfl
  · exact fun w os => top_run w os
  · decide
  · intro w
    funext os
    exact Prod.ext (look1 w os) (Prod.ext (look2 w os) (look3 w os))
noncomputable def lawRec : DefRec := { name := u "law", params := defArgs (cell 20), body := defBody (cell 20), scope := defScope (cell 20), pos := defPos (cell 20) }
noncomputable abbrev Walk₁ : Prop := WalkO q₁ loose₁ (XL q₁ []) (Hook.says H₁) PySem.Challenge.rw_wr0051_01.row.toRowW lawRec [] fun f vs => PySem.call f vs
theorem said_bare : (["vars", "dir", "locals"] : List Str).filter (readsOut PySem.Challenge.rw_wr0051_01.row.prog PySem.Challenge.rw_wr0051_01.row.prog.main.body) = [] := by decide +kernel
theorem said_strict : (importedModules PySem.Challenge.rw_wr0051_01.row.prog.main.body).all cThrough.contains = true := by decide +kernel
theorem said_road : noRoadLSs { strict := !true, foot := none, bare := [] } PySem.Challenge.rw_wr0051_01.row.prog.main.body = true := by decide +kernel
theorem said_open : looksOpen PySem.Challenge.rw_wr0051_01.row.prog = true := by
  unfold looksOpen
  refine look_both (look_both (look_both (look_both (look_both ?_ ?_) ?_) ?_) ?_) ?_
  · decide +kernel
  · decide +kernel
  · decide +kernel
  · decide +kernel
  · rw [said_bare, said_strict]; exact said_road
  · decide +kernel
/-- the law is well said, look by look -/
theorem said₁ : OpenLaw.wellSaid PySem.Challenge.rw_wr0051_01 = true := by
  unfold OpenLaw.wellSaid
  iterate 18 (refine look_both ?_ (by decide +kernel))
  unfold OpenRow.wellSaid OpenRow.partSaid
  iterate 15 (refine look_both ?_ (by decide +kernel))
  exact said_open
theorem head₁ (walk : Walk₁) : PySem.Challenge.rw_wr0051_01.Holds := by
  refine holds_law said₁ fun said => ?_
  refine holds_open (r := PySem.Challenge.rw_wr0051_01.row) (q := q₁) (loose := loose₁) (Xt := Xt₁) (XP := XL q₁ []) (Yf := Hook.obs H₁) (Ya := Hook.val H₁) (YP := Hook.says H₁) (N := 20000) left₁ (Hook.of H₁) (Hook.keeps H₁) (fun s e => xl_of s (Bool.and_eq_true_iff.mp e).1) XL.keeps (d := lawRec) (kwd := []) (by rfl) (by rfl) (by rfl) (fun s e => recFacts_of (Bool.and_eq_true_iff.mp e).2) (by rfl) (by assumption) (by decide +kernel) ⟨rfl, rfl, rfl, rfl, rfl, by decide +kernel⟩ ?hw walk
  case hw => w_witness2
end Mine
set_option maxRecDepth 100000
set_option maxHeartbeats 1000000
namespace Mine
open PySem PySem.W PySem.Calls PyProof.Rows
noncomputable abbrev Top₁ (mean : ExcName → Option Value) (mg mb : Str → Option Value) (B : Heap) : Prop := Top q₁ (looseW q₁ loose₁) mean mg mb B
noncomputable abbrev M₁ (w : World) : Model := model PySem.Challenge.rw_wr0051_01.row.prog w
noncomputable abbrev put (m : Str → Option Value) (x : Str) (v : Value) : Str → Option Value := fun y => if y = x then some v else m y

/-- one statement by itself, its end handed on -/
theorem execs_cut {M : Model} {A : Around} {a : Stmt} {rest : List Stmt} {env : Env} {Q : Flow → Shared → Prop} {E : Value → Shared → Prop} {s : Shared} {R : Shared → Prop}
    (h1 : ∀ Q : Flow → Shared → Prop, (∀ s', R s' → Q .next s') → wpAny M A (exec a env) Q E s) (h2 : ∀ s', R s' → wpAny M A (execs rest env) Q E s') : wpAny M A (execs (a :: rest) env) Q E s := by
  show wpAny M A (exec a env >>= fun f => match f with | .next => execs rest env | f => pure f) Q E s
  exact wpAny_bind (h1 _ fun s' h => h2 s' h)
/-- the same where the statement may hand back a value -/
theorem execs_cutR {M : Model} {A : Around} {a : Stmt} {rest : List Stmt} {env : Env} {Q : Flow → Shared → Prop} {E : Value → Shared → Prop} {s : Shared} {R : Shared → Prop}
    (h1 : ∀ Q' : Flow → Shared → Prop, (∀ s', R s' → Q' .next s') → (∀ v s', Q (.ret v) s' → Q' (.ret v) s') → wpAny M A (exec a env) Q' E s) (h2 : ∀ s', R s' → wpAny M A (execs rest env) Q E s') : wpAny M A (execs (a :: rest) env) Q E s := by
  show wpAny M A (exec a env >>= fun f => match f with | .next => execs rest env | f => pure f) Q E s
  exact wpAny_bind (h1 _ (fun s' h => h2 s' h) fun v s' h => wpAny_pure h)

section
variable {w : World} {mean : ExcName → Option Value} {mg mb : Str → Option Value} {B : Heap} {A : Around} {L : Addr} {m : Str → Option Value} {news : List (Addr × Obj)}

theorem frame_size {h : Heap} (F : Fr B L h m) : B.objs.size ≤ h.objs.size := by
  obtain ⟨oL, _, _, hL, _⟩ := F.ns
  exact Nat.le_of_lt (Nat.lt_of_le_of_lt F.above (Heap.lt_size hL))
theorem frame_at {h : Heap} (F : Fr B L h m) : ∃ fo, h.get? L = some fo := let ⟨o, _, _, hL, _⟩ := F.ns; ⟨o, hL⟩
theorem get_none_of_size {h : Heap} {a : Addr} (ha : h.objs.size ≤ a) : h.get? a = none := by
  cases q : h.get? a with
  | none => rfl
  | some o => exact absurd (Heap.lt_size q) (Nat.not_lt.mpr ha)

/-- a def of the text is entered; its frame lies behind all, the caller's frame joins the ledger -/
theorem enter_fn {f : Addr} {name : Str} {params : Arguments} {body : List Stmt} {scope : Scope} {pm cd doc : Value} {od : Option Addr} {osl : Array (Option Value)} {vals : List Value} {binds : List (Str × Value)} {s : Shared}
    {Q : Value → Shared → Prop} {E : Value → Shared → Prop}
    (F : Fr B L s.heap m) (N : News B L s.heap news) (X : (KK w.params).In B) (T : Top₁ mean mg mb B)
    (hf : (KK w.params).lookup f = some ⟨.type "function", od, .func (docDef name params body scope pm cd doc), osl⟩) (hc : codeIn (KK w.params) cd name = true) (hroom : A.depth < recursionLimit)
    (hbind : bindArgs (docDef name params body scope pm cd doc) ⟨vals, []⟩ = pure binds) (hloc : ∀ x ∈ binds, scope.names.lookup x.1 = some .local)
    (h : ∀ L' h₁ fo, s.heap.get? L = some fo → L' = s.heap.objs.size → L < L' → Fr B L' h₁ (fun x => binds.reverse.lookup x) → News B L' h₁ ((L, fo) :: news) →
      wpAny (M₁ w) (A.deeper (envOf name scope L' f cd)) (execs body (envOf name scope L' f cd)) (fun fl s' => Q (match fl with | .ret v => v | _ => .none) s') (fun _ _ => False) ⟨h₁, s.gens, s.drawn, s.toks + binds.length, s.os⟩)
    (hco : scope.isCoroutine = false := by rfl) (hgen : scope.isGenerator = false := by rfl) (hk : scope.kind = .function := by rfl) (hcell : ∀ x ∈ scope.names, x.2 ≠ .cell := by decide) :
    wpAny (M₁ w) A (call (.ref f) vals) Q E s := by
  have X' : (KK w.params).In s.heap := X.keeps F.keep
  obtain ⟨fo, hfo⟩ := frame_at F
  refine wpAny_call (call_plain_ret hroom (X' _ _ hf) rfl (T.nolimit.keeps F.keep) (codeRec_of X' hc) hbind hloc (fun h₁ F₁ => ?_) hco hgen hk hcell)
  refine h s.heap.objs.size h₁ fo hfo rfl (Heap.lt_size hfo) ⟨F₁.ns, fun b o e => F₁.keep _ _ (F.keep _ _ e), frame_size F⟩ ?_
  intro p hp
  rcases List.mem_cons.mp hp with rfl | hp
  · exact ⟨F₁.keep _ _ hfo, Nat.ne_of_lt (Heap.lt_size hfo), get_none_of_size F.above⟩
  · obtain ⟨a, b, c⟩ := N p hp
    exact ⟨F₁.keep _ _ a, Nat.ne_of_lt (Heap.lt_size a), c⟩

theorem back_fn {h h' : Heap} {L' : Addr} {m' : Str → Option Value} {fo : Obj} {news' : List (Addr × Obj)} (F : Fr B L h m) (N : News B L h news) (hfo : h.get? L = some fo) (F' : Fr B L' h' m') (N' : News B L' h' news')
    (hL : (L, fo) ∈ news') (hsub : ∀ p ∈ news, p ∈ news') : Fr B L h' m ∧ News B L h' news := by
  obtain ⟨o, es, ep, ho, r⟩ := F.ns
  obtain rfl : o = fo := Option.some.inj (ho.symm.trans hfo)
  exact ⟨⟨⟨o, es, ep, (N' _ hL).1, r⟩, F'.keep, F.above⟩, fun p hp => ⟨(N' _ (hsub p hp)).1, (N p hp).2.1, (N p hp).2.2⟩⟩
end
end Mine
namespace Mine
open PySem PySem.W PySem.Calls PyProof.Rows
section
variable {w : World} {mean : ExcName → Option Value} {mg mb : Str → Option Value} {B : Heap} {A : Around} {L : Addr} {m : Str → Option Value} {news : List (Addr × Obj)}
noncomputable def outOf (fl : Flow) : Value := match fl with | .ret v => v | _ => .none
/-- a def of the text that leaves the ledger as it is -/
theorem spec_fn {f : Addr} {name : Str} {params : Arguments} {body : List Stmt} {scope : Scope} {pm cd doc : Value} {od : Option Addr} {osl : Array (Option Value)} {vals : List Value} {binds : List (Str × Value)} {h : Heap} {g : Array GenState} {d : Drawn} {tk : Nat} {os : OsState}
    {Q : Value → Shared → Prop} {E : Value → Shared → Prop} (Res : Value → Prop)
    (F : Fr B L h m) (N : News B L h news) (X : (KK w.params).In B) (T : Top₁ mean mg mb B)
    (hf : (KK w.params).lookup f = some ⟨.type "function", od, .func (docDef name params body scope pm cd doc), osl⟩) (hc : codeIn (KK w.params) cd name = true) (hroom : A.depth < recursionLimit)
    (hbind : bindArgs (docDef name params body scope pm cd doc) ⟨vals, []⟩ = pure binds) (hloc : ∀ x ∈ binds, scope.names.lookup x.1 = some .local)
    (hbody : ∀ L' h₁ fo (Q' : Flow → Shared → Prop), L < L' → Fr B L' h₁ (fun x => binds.reverse.lookup x) → News B L' h₁ ((L, fo) :: news) →
      (∀ fl h' tk' m', Res (outOf fl) → Fr B L' h' m' → News B L' h' ((L, fo) :: news) → Q' fl ⟨h', g, d, tk', os⟩) →
      wpAny (M₁ w) (A.deeper (envOf name scope L' f cd)) (execs body (envOf name scope L' f cd)) Q' (fun _ _ => False) ⟨h₁, g, d, tk + binds.length, os⟩)
    (hQ : ∀ v h' tk', Res v → Fr B L h' m → News B L h' news → Q v ⟨h', g, d, tk', os⟩)
    (hco : scope.isCoroutine = false := by rfl) (hgen : scope.isGenerator = false := by rfl) (hk : scope.kind = .function := by rfl) (hcell : ∀ x ∈ scope.names, x.2 ≠ .cell := by decide) :
    wpAny (M₁ w) A (call (.ref f) vals) Q E ⟨h, g, d, tk, os⟩ := by
  refine enter_fn F N X T hf hc hroom hbind hloc ?_ hco hgen hk hcell
  intro L' h₁ fo hfo _ hlt F' N'
  refine hbody L' h₁ fo _ hlt F' N' ?_
  intro fl h' tk' m' hr F'' N''
  obtain ⟨a, b⟩ := back_fn F N hfo F'' N'' (.head _) (fun p hp => .tail _ hp)
  exact hQ (outOf fl) h' tk' hr a b
/-- a def that may change the ledger -/
theorem spec_fnW {f : Addr} {name : Str} {params : Arguments} {body : List Stmt} {scope : Scope} {pm cd doc : Value} {od : Option Addr} {osl : Array (Option Value)} {vals : List Value} {binds : List (Str × Value)} {h : Heap} {g : Array GenState} {d : Drawn} {tk : Nat} {os : OsState}
    {Q : Value → Shared → Prop} {E : Value → Shared → Prop} (Res : Value → List (Addr × Obj) → Prop)
    (F : Fr B L h m) (N : News B L h news) (X : (KK w.params).In B) (T : Top₁ mean mg mb B)
    (hf : (KK w.params).lookup f = some ⟨.type "function", od, .func (docDef name params body scope pm cd doc), osl⟩) (hc : codeIn (KK w.params) cd name = true) (hroom : A.depth < recursionLimit)
    (hbind : bindArgs (docDef name params body scope pm cd doc) ⟨vals, []⟩ = pure binds) (hloc : ∀ x ∈ binds, scope.names.lookup x.1 = some .local)
    (hbody : ∀ L' h₁ fo (Q' : Flow → Shared → Prop), L < L' → Fr B L' h₁ (fun x => binds.reverse.lookup x) → News B L' h₁ ((L, fo) :: news) →
      (∀ fl h' tk' m' news', Res (outOf fl) news' → Fr B L' h' m' → News B L' h' ((L, fo) :: news') → (∀ p ∈ news', p.1 ≠ L) → Q' fl ⟨h', g, d, tk', os⟩) →
      wpAny (M₁ w) (A.deeper (envOf name scope L' f cd)) (execs body (envOf name scope L' f cd)) Q' (fun _ _ => False) ⟨h₁, g, d, tk + binds.length, os⟩)
    (hQ : ∀ v h' tk' news', Res v news' → Fr B L h' m → News B L h' news' → Q v ⟨h', g, d, tk', os⟩)
    (hco : scope.isCoroutine = false := by rfl) (hgen : scope.isGenerator = false := by rfl) (hk : scope.kind = .function := by rfl) (hcell : ∀ x ∈ scope.names, x.2 ≠ .cell := by decide) :
    wpAny (M₁ w) A (call (.ref f) vals) Q E ⟨h, g, d, tk, os⟩ := by
  refine enter_fn F N X T hf hc hroom hbind hloc ?_ hco hgen hk hcell
  intro L' h₁ fo hfo _ hlt F' N'
  refine hbody L' h₁ fo _ hlt F' N' ?_
  intro fl h' tk' m' news' hr F'' N'' hne
  have hL := (N'' _ (.head _)).1
  obtain ⟨o, es, ep, ho, r⟩ := F.ns
  obtain rfl : o = fo := Option.some.inj (ho.symm.trans hfo)
  exact hQ (outOf fl) h' tk' news' hr ⟨⟨o, es, ep, hL, r⟩, F''.keep, F.above⟩ fun p hp => ⟨(N'' _ (.tail _ hp)).1, hne p hp, (N'' _ (.tail _ hp)).2.2⟩
end
end Mine
set_option maxRecDepth 100000
set_option maxHeartbeats 1000000
namespace Mine
open PySem PySem.W PySem.Calls PyProof.Rows
section
variable {prog : Program} {w : World} {A : Around} {env : Env} {h₀ : Heap}
theorem put_eq (m : Str → Option Value) (x : Str) (v : Value) : (fun y => if y = x then some v else m y) = put m x v := rfl
/-- what a loop's body must do: hand on the ledger with the iterator's object ahead, or give a value back -/
noncomputable def LoopR (prog : Program) (w : World) (A : Around) (h₀ : Heap) (env : Env) (x : Str) (body : List Stmt) (Q : Flow → Shared → Prop) (it : Value) (s₂ : Shared) : Prop :=
  ∃ (I : Addr) (fp : List Addr) (n : Nat) (P : Nat → Value → Prop) (St : Nat → Heap → Prop) (m : Str → Option Value) (news fpo : List (Addr × Obj)) (J : Nat → (Str → Option Value) → List (Addr × Obj) → Prop),
    it = .ref I ∧ Walks prog w A I fp [I] n P St ∧ env.locals ≠ I ∧ h₀.get? I = none ∧ (∀ i h, St i h → ∃ io, h.get? I = some io) ∧ (∀ b ∈ fp, b = I ∨ ∃ o, (b, o) ∈ fpo) ∧ (∀ p ∈ news, p.1 ≠ I) ∧ St 0 s₂.heap ∧ Fr h₀ env.locals s₂.heap m ∧
    News h₀ env.locals s₂.heap news ∧ (∀ i m' n', J i m' n' → ∀ p ∈ fpo, p ∈ n') ∧ J 0 m news ∧
    (∀ i v m₁ news₁ h₁ tk₁ io (Q' : Flow → Shared → Prop), i < n → P i v → J i m₁ news₁ → (∀ p ∈ news₁, p.1 ≠ I) → Fr h₀ env.locals h₁ (put m₁ x v) → News h₀ env.locals h₁ ((I, io) :: news₁) →
      (∀ h₂ tk₂ m₂ news₂, Fr h₀ env.locals h₂ m₂ → News h₀ env.locals h₂ ((I, io) :: news₂) → (∀ p ∈ news₂, p.1 ≠ I) → J (i + 1) m₂ news₂ → Q' .next { s₂ with heap := h₂, toks := tk₂ }) →
      (∀ v s', Q (.ret v) s' → Q' (.ret v) s') →
      wpAny (model prog w) A (execs body env) Q' (fun _ _ => False) { s₂ with heap := h₁, toks := tk₁ }) ∧
    ∀ h' tk m' news', Fr h₀ env.locals h' m' → News h₀ env.locals h' news' → J n m' news' → Q .next { s₂ with heap := h', toks := tk }

theorem for_gen {s : Shared} {x : Str} {px pos : Pos} {iter : Expr} {body : List Stmt} {Q : Flow → Shared → Prop} (h₀ : Heap) (hx : env.kindOf x = some .local)
    (hp : (env.scope.kind == .class || (env.scope.kind == .module && env.locals != env.globals)) = false)
    (h : wpAny (model prog w) A (eval iter env) (fun xv s₁ => wpAny (model prog w) A (pyIter xv) (fun it s₂ => LoopR prog w A h₀ env x body Q it s₂) (fun _ _ => False) s₁) (fun _ _ => False) s)
    (hs : ∀ x, foldedSetIterable iter env x = pure x := by intro _; rfl) :
    wpAny (model prog w) A (exec (.For (.Name x px) iter body [] pos) env) Q (fun _ _ => False) s := by
  refine wpAny_For (wpAny_mono h (fun xv s₁ h₁ => wpAny_mono h₁ (fun it s₂ h₂ => ?_) fun _ _ e => e) fun _ _ e => e) hs
  obtain ⟨I, fp, n, P, St, m, news, fpo, J, rfl, W, hLI, hI, hio, hfp, hnw, hst, F, N, hJf, h0, step, hQ⟩ := h₂
  have old : ∀ b o, h₀.get? b = some o → b ∉ [I] := fun b o e hb => by rw [List.mem_singleton.mp hb, hI] at e; cases e
  refine codeAny_forLoop (R := fun r s' => match r with | .ok f => Q f s' | .error e => cameBackBy (model prog w) A env (fun _ _ => False) e s')
    (fun k s' => ∃ h' tk m' news' i, s' = { s₂ with heap := h', toks := tk } ∧ St i h' ∧ Fr h₀ env.locals h' m' ∧ News h₀ env.locals h' news' ∧ (∀ p ∈ news', p.1 ≠ I) ∧ J i m' news' ∧ i ≤ n ∧ k = n + 1 - i) ?_ (n + 1)
    ⟨s₂.heap, s₂.toks, m, news, 0, rfl, hst, F, N, hnw, h0, Nat.zero_le _, rfl⟩
  rintro k s' ⟨h', tk, m', news', i, rfl, hst', F', N', hnw', hJ, hi, rfl⟩
  have next : ∀ h₁ : Heap, (∀ b o, b ∉ [I] → h'.get? b = some o → h₁.get? b = some o) → Fr h₀ env.locals h₁ m' ∧ News h₀ env.locals h₁ news' := fun h₁ hk₁ =>
    ⟨⟨F'.ns.at' fun o e => hk₁ _ o (fun z => hLI (List.mem_singleton.mp z)) e, fun b o e => hk₁ b o (old b o e) (F'.keep b o e), F'.above⟩, fun p hp => ⟨hk₁ _ _ (fun z => hnw' p hp (List.mem_singleton.mp z)) (N' p hp).1, (N' p hp).2⟩⟩
  by_cases hlt : i < n
  · refine W.item i _ _ _ hlt hst' fun v h₁ tk₁ hP hst₁ hk₁ => ?_
    obtain ⟨F₁, N₁⟩ := next h₁ hk₁
    refine wpAny_assign_Name (wpAny_storeName_local hx F₁.ns (fun h₂ hn₂ hs₂ => ?_) hp)
    have F₂ := F₁.set hn₂ hs₂
    obtain ⟨io, hio₁⟩ := hio _ _ hst₁
    have hio₂ : h₂.get? I = some io := (hs₂.2 I (Ne.symm hLI)).trans hio₁
    have N₂ : News h₀ env.locals h₂ ((I, io) :: news') := by
      intro p hp
      rcases List.mem_cons.mp hp with rfl | hp
      · exact ⟨hio₂, Ne.symm hLI, hI⟩
      · exact N₁.set hs₂ p hp
    have hpass : PassesOwn (model prog w) A env (fun _ _ => False) := by passes_own
    refine wpAny_passesOwn hpass (step i v m' news' h₂ _ io _ hlt hP hJ hnw' F₂ N₂ ?_ ?_)
    · intro h₃ tk₃ m₂ news₂ F₃ N₃ hne₃ hJ₃
      refine ⟨n + 1 - (i + 1), by omega, h₃, tk₃, m₂, news₂, i + 1, rfl, ?_, F₃, fun p hp => N₃ p (.tail _ hp), hne₃, hJ₃, hlt, rfl⟩
      refine W.frame _ _ _ hst₁ fun b hb o e => ?_
      rcases hfp b hb with rfl | ⟨o', hm⟩
      · rw [hio₁] at e; cases e
        exact (N₃ _ (.head _)).1
      · have e' := (N₁ _ (hJf _ _ _ hJ _ hm)).1
        rw [e'] at e; cases e
        exact (N₃ _ (.tail _ (hJf _ _ _ hJ₃ _ hm))).1
    · intro v s' hv
      exact hv
  · have hin : i = n := by omega
    subst hin
    refine W.done _ _ _ hst' fun h₁ tk₁ hk₁ => wpAny_execs_nil ?_
    obtain ⟨F₁, N₁⟩ := next h₁ hk₁
    exact hQ h₁ tk₁ m' news' F₁ N₁ hJ

variable {Q : Flow → Shared → Prop} {x : Str} {body : List Stmt} {m : Str → Option Value} {news : List (Addr × Obj)} {h : Heap} {g : Array GenState} {d : Drawn} {tk : Nat} {os : OsState}
/-- a list that the ledger holds -/
theorem iter_list {D : Addr} {its : Array Value} {c : Nat} (J : Nat → (Str → Option Value) → List (Addr × Obj) → Prop) (F : Fr h₀ env.locals h m) (N : News h₀ env.locals h news) (hm : (D, W.listOf its c) ∈ news) (hh : A.handled = none)
    (hJf : ∀ i m' n', J i m' n' → (D, W.listOf its c) ∈ n') (h0 : J 0 m news)
    (step : ∀ I io i v m₁ news₁ h₁ tk₁ (Q' : Flow → Shared → Prop), its[i]? = some v → J i m₁ news₁ → (∀ p ∈ news₁, p.1 ≠ I) → (∀ p ∈ news, p.1 < I) → Fr h₀ env.locals h₁ (put m₁ x v) → News h₀ env.locals h₁ ((I, io) :: news₁) →
      (∀ h₂ tk₂ m₂ news₂, Fr h₀ env.locals h₂ m₂ → News h₀ env.locals h₂ ((I, io) :: news₂) → (∀ p ∈ news₂, p.1 ≠ I) → J (i + 1) m₂ news₂ → Q' .next ⟨h₂, g, d, tk₂, os⟩) →
      (∀ v s', Q (.ret v) s' → Q' (.ret v) s') → wpAny (model prog w) A (execs body env) Q' (fun _ _ => False) ⟨h₁, g, d, tk₁, os⟩)
    (hQ : ∀ h' tk m' news', Fr h₀ env.locals h' m' → News h₀ env.locals h' news' → J its.size m' news' → Q .next ⟨h', g, d, tk, os⟩) :
    wpAny (model prog w) A (pyIter (.ref D)) (fun it s₂ => LoopR prog w A h₀ env x body Q it s₂) (fun _ _ => False) ⟨h, g, d, tk, os⟩ := by
  obtain ⟨hD, hDL, hD0⟩ := N _ hm
  have hl : h.IsList D its := ⟨_, hD, rfl, _, rfl⟩
  have hlt : D < h.objs.size := Heap.lt_size hD
  refine wpAny_pyIter_list hl ?_
  have hI0 : h₀.get? h.objs.size = none := by
    cases q : h₀.get? h.objs.size with
    | none => rfl
    | some o => exact absurd (Heap.lt_size (F.keep _ _ q)) (Nat.lt_irrefl _)
  have hLI : env.locals ≠ h.objs.size := by
    obtain ⟨o, _, _, hL, _⟩ := F.ns
    exact Nat.ne_of_lt (Heap.lt_size hL)
  have up : ∀ b o, h.get? b = some o → (h.push { cls := .type "list_iterator", data := .fields #[.ref D, .int 0 0] }).get? b = some o := fun b o e => Heap.get?_push_of_some _ e
  refine ⟨h.objs.size, [h.objs.size, D], its.size, _, _, m, news, [(D, W.listOf its c)], J, rfl, Walks.list hh _ D (Nat.ne_of_lt hlt) its, hLI, hI0, fun i h' st => let ⟨o, ho, _⟩ := st.1; ⟨o, ho⟩, ?_, fun p hp => Nat.ne_of_lt (Heap.lt_size (N p hp).1),
    ⟨⟨_, Heap.get?_push_size _ rfl, rfl, rfl⟩, hl.push _⟩, ⟨F.ns.at' fun o e => up _ o e, fun b o e => up _ _ (F.keep b o e), F.above⟩, fun p hp => ⟨up _ _ (N p hp).1, (N p hp).2⟩, ?_, h0, ?_, hQ⟩
  · intro b hb
    rcases List.mem_cons.mp hb with rfl | hb
    · exact .inl rfl
    · rw [List.mem_singleton.mp hb]; exact .inr ⟨_, .head _⟩
  · intro i m' n' hJ p hp
    rw [List.mem_singleton.mp hp]; exact hJf i m' n' hJ
  · intro i v m₁ news₁ h₁ tk₁ io Q' hi hP hJ hne F₁ N₁ hnext hret
    exact step _ io i v m₁ news₁ h₁ tk₁ Q' hP hJ hne (fun p hp => Heap.lt_size (N p hp).1) F₁ N₁ hnext hret
theorem pyIter_str' {y : Str} {t : Tok} {s : Shared} {Q : Value → Shared → Prop} {E : Value → Shared → Prop}
    (hQ : ∀ (o : Obj) (St : Nat → Heap → Prop), (∀ A' : Around, A'.handled = none → Walks prog w A' s.heap.objs.size [s.heap.objs.size] [s.heap.objs.size] y.cps.size (SignAt y) St) → St 0 (s.heap.push o) → (∀ i h, St i h → ∃ io, h.get? s.heap.objs.size = some io) →
      Q (.ref s.heap.objs.size) { s with heap := s.heap.push o }) : wpAny (model prog w) A (pyIter (.str y t)) Q E s := by
  cases ha : y.cps.all (· < 128)
  · exact wpAny_pyIter_wide ha (hQ _ _ (fun A' hA => Walks.strWide hA _ y t) ⟨_, Heap.get?_push_size _ rfl, rfl, rfl⟩ fun i h st => let ⟨o, ho, _⟩ := st; ⟨o, ho⟩)
  · exact wpAny_pyIter_ascii ha (hQ _ _ (fun A' hA => Walks.strAscii hA _ y t) ⟨_, Heap.get?_push_size _ rfl, rfl, rfl⟩ fun i h st => let ⟨o, ho, _⟩ := st; ⟨o, ho⟩)
/-- the signs of a text -/
theorem iter_str {y : Str} {t : Tok} (J : Nat → (Str → Option Value) → List (Addr × Obj) → Prop) (F : Fr h₀ env.locals h m) (N : News h₀ env.locals h news) (hh : A.handled = none)
    (h0 : J 0 m news)
    (step : ∀ I io i k t1 m₁ news₁ h₁ tk₁ (Q' : Flow → Shared → Prop), y.cps[i]? = some k → J i m₁ news₁ → (∀ p ∈ news₁, p.1 ≠ I) → (∀ p ∈ news, p.1 < I) → Fr h₀ env.locals h₁ (put m₁ x (.str (Str.mk #[k]) t1)) → News h₀ env.locals h₁ ((I, io) :: news₁) →
      (∀ h₂ tk₂ m₂ news₂, Fr h₀ env.locals h₂ m₂ → News h₀ env.locals h₂ ((I, io) :: news₂) → (∀ p ∈ news₂, p.1 ≠ I) → J (i + 1) m₂ news₂ → Q' .next ⟨h₂, g, d, tk₂, os⟩) →
      (∀ v s', Q (.ret v) s' → Q' (.ret v) s') → wpAny (model prog w) A (execs body env) Q' (fun _ _ => False) ⟨h₁, g, d, tk₁, os⟩)
    (hQ : ∀ h' tk m' news', Fr h₀ env.locals h' m' → News h₀ env.locals h' news' → J y.cps.size m' news' → Q .next ⟨h', g, d, tk, os⟩) :
    wpAny (model prog w) A (pyIter (.str y t)) (fun it s₂ => LoopR prog w A h₀ env x body Q it s₂) (fun _ _ => False) ⟨h, g, d, tk, os⟩ := by
  refine pyIter_str' ?_
  intro o St W hst hio
  have hI0 : h₀.get? h.objs.size = none := by
    cases q : h₀.get? h.objs.size with
    | none => rfl
    | some o => exact absurd (Heap.lt_size (F.keep _ _ q)) (Nat.lt_irrefl _)
  have hLI : env.locals ≠ h.objs.size := by
    obtain ⟨o, _, _, hL, _⟩ := F.ns
    exact Nat.ne_of_lt (Heap.lt_size hL)
  have up : ∀ b o', h.get? b = some o' → (h.push o).get? b = some o' := fun b o e => Heap.get?_push_of_some _ e
  refine ⟨h.objs.size, [h.objs.size], y.cps.size, _, St, m, news, [], J, rfl, W A hh, hLI, hI0, hio, ?_, fun p hp => Nat.ne_of_lt (Heap.lt_size (N p hp).1),
    hst, ⟨F.ns.at' fun o e => up _ o e, fun b o e => up _ _ (F.keep b o e), F.above⟩, fun p hp => ⟨up _ _ (N p hp).1, (N p hp).2⟩, ?_, h0, ?_, hQ⟩
  · intro b hb
    exact .inl (List.mem_singleton.mp hb)
  · intro i m' n' hJ p hp
    cases hp
  · intro i v m₁ news₁ h₁ tk₁ io Q' hi hP hJ hne F₁ N₁ hnext hret
    obtain ⟨k, t1, hk, rfl⟩ := hP
    exact step _ io i k t1 m₁ news₁ h₁ tk₁ Q' hk hJ hne (fun p hp => Heap.lt_size (N p hp).1) F₁ N₁ hnext hret

theorem item_neg {value slice : Expr} {D L : Addr} {us : List Value} {c : Nat} {k : Int} {t : Tok} {v : Value} {s : Shared} {Q : Value → Shared → Prop} {E : Value → Shared → Prop} (N : News h₀ L s.heap news) (hm : (D, W.listOf us.toArray c) ∈ news)
    (hx : us[(k + us.length).toNat]? = some v) (h0 : k < 0) (h1 : -(us.length : Int) ≤ k) (hfit : -(2 ^ 63) ≤ k) (h : Q v s)
    (hs : subscripted slice false (.ref D) (.int k t) = operate [.ref D, .int k t] (getItem (.ref D) (.int k t)) := by with_unfolding_all rfl)
    (ht : ∀ r, letTemporaryGo value (.ref D) r = pure () := by intro _; with_unfolding_all rfl) :
    wpAny (model prog w) A (subscriptTail value slice (.ref D) (.int k t)) Q E s := by
  have hl : s.heap.IsList D us.toArray := ⟨_, (N _ hm).1, rfl, _, rfl⟩
  exact subscriptTail_ops hl.typeIs slot_list_getitem.lookup (wpAny_getItem_list_neg hl h0 (by simpa using h1) hfit (by simpa using hx) h) hs ht
end
noncomputable def bindM' (m : Str → Option Value) (x : Str) (o : Option Value) : Str → Option Value := fun y => if y = x then o else m y
theorem put_bindM (m : Str → Option Value) (x : Str) (o : Option Value) (v : Value) : put (bindM' m x o) x v = bindM' m x (some v) := by
  funext y; simp only [put, bindM']; split <;> rfl
theorem bindM'_start (m : Str → Option Value) (x : Str) : m = bindM' m x (m x) := by
  funext y; simp only [bindM']; split
  · subst_vars; rfl
  · rfl
theorem put_under {x z : Str} (hne : z ≠ x) (b : Str → Option Value) (v o : Option Value) (v' : Value) : put (bindM' (bindM' b z v) x o) z v' = bindM' (bindM' b z (some v')) x o := by
  funext y; simp only [put, bindM']; split
  · rename_i h; subst h; rw [if_neg hne]
  · rfl
theorem at_last (us : List Value) (a b : Value) : (us ++ [a, b])[((-1 : Int) + ((us ++ [a, b]).length : Nat)).toNat]? = some b := by
  have e : ((-1 : Int) + ((us ++ [a, b]).length : Nat)).toNat = us.length + 1 := by simp; omega
  rw [e, List.getElem?_append_right (by omega)]; simp
theorem at_prev (us : List Value) (a b : Value) : (us ++ [a, b])[((-2 : Int) + ((us ++ [a, b]).length : Nat)).toNat]? = some a := by
  have e : ((-2 : Int) + ((us ++ [a, b]).length : Nat)).toNat = us.length := by simp; omega
  rw [e, List.getElem?_append_right (by omega)]; simp
theorem two_le (us : List Value) (a b : Value) : -((us ++ [a, b]).length : Int) ≤ -2 := by simp; omega
theorem one_le (us : List Value) (a b : Value) : -((us ++ [a, b]).length : Int) ≤ -1 := by simp; omega
theorem push_two (us : List Value) (a b c : Value) : (us ++ [a, b]).toArray.push c = ((us ++ [a]) ++ [b, c]).toArray := by simp
theorem AllLt.ne {d : Nat} : ∀ {l : List (Addr × Obj)}, AllLt d l → ∀ p ∈ l, p.1 ≠ d
  | [], _, p, hp => nomatch hp
  | q :: r, h, p, hp => by
    rcases List.mem_cons.mp hp with rfl | hp
    · exact Nat.ne_of_lt h.1
    · exact AllLt.ne h.2 p hp
def txt (l : List Nat) : Str := Str.mk l.toArray
theorem txt_len (l : List Nat) : (txt l).length = l.length := by simp [txt, Str.length]
theorem txt_beq (a b : List Nat) : (txt a == txt b) = decide (a = b) := by
  by_cases h : a = b
  · subst h; simp
  · rw [decide_eq_false h]
    exact beq_false_of_ne fun e => h (by have := congrArg (fun s : Str => s.cps.toList) e; simpa [txt] using this)
theorem item_txt {l : List Nat} {i : Int} {n : Nat} (h0 : 0 ≤ i) (hn : l[i.toNat]? = some n) : Txt.item (txt l) i = txt [n] := item_meets h0 (by simpa [txt] using hn)
theorem slice_txt {l : List Nat} {i j : Int} (h0 : 0 ≤ i) (h1 : i ≤ j) (h2 : j ≤ l.length) : Txt.slice (txt l) (some i) (some j) = txt ((l.drop i.toNat).take (j - i).toNat) :=
  eq_of_beq (by simpa [txt] using slice_closes (x := txt l) ⟨h0, h1, by simpa [txt] using h2⟩)
theorem slice_txt_to {l : List Nat} {j : Int} (h0 : 0 ≤ j) (h2 : j ≤ l.length) : Txt.slice (txt l) none (some j) = txt (l.take j.toNat) :=
  eq_of_beq (by simpa [txt] using slice_closes_to (x := txt l) ⟨h0, by simpa [txt] using h2⟩)
theorem slice_txt_from {l : List Nat} {i : Int} (h0 : 0 ≤ i) (h2 : i ≤ l.length) : Txt.slice (txt l) (some i) none = txt (l.drop i.toNat) := by
  rw [slice_from_eq h0 (by rw [txt_len]; exact h2) rfl, txt_len]
  unfold txt
  congr 2
  apply List.take_of_length_le
  simp [List.length_drop]; omega
theorem two_put (b : Str → Option Value) (x z : Str) (v w : Option Value) (v' w' : Value) : put (put (bindM' (bindM' b z w) x v) z w') x v' = bindM' (bindM' b z (some w')) x (some v') := by
  funext y; simp only [put, bindM']; by_cases h1 : y = x <;> by_cases h2 : y = z <;> simp [h1, h2]
theorem put_swap {x z : Str} (h : x ≠ z) (b : Str → Option Value) (o : Option Value) (w : Value) : put (bindM' b x o) z w = bindM' (bindM' b z (some w)) x o := by
  funext y; simp only [put, bindM']; by_cases h1 : y = x
  · subst h1; rw [if_neg h]; simp
  · simp [h1]
theorem lookup_bindM (x : Str) (v : Value) (r : List (Str × Value)) : (fun y => List.lookup y ((x, v) :: r)) = bindM' (fun y => List.lookup y r) x (some v) := by
  funext y; simp only [bindM', List.lookup]
  by_cases h : y = x
  · subst h; simp
  · rw [if_neg h]
    have : (y == x) = false := by simpa using h
    rw [this]
theorem put3 {x z : Str} (h : x ≠ z) (b : Str → Option Value) (v v' w : Value) : put (put (put b x v) z w) x v' = put (put b x v') z w := by
  funext y; simp only [put]; by_cases h1 : y = x
  · subst h1; rw [if_pos rfl, if_neg h, if_pos rfl]
  · simp [h1]
theorem put_put (b : Str → Option Value) (x : Str) (v v' : Value) : put (put b x v) x v' = put b x v' := by
  funext y; simp only [put]; split <;> rfl
end Mine
set_option maxRecDepth 100000
set_option maxHeartbeats 1000000
namespace Mine
open PySem PySem.W PySem.Calls PyProof.Rows
local macro_rules | `(tactic| k_all) => `(tactic| first | with_reducible assumption | exact AllLt.ne (And.right (by assumption)) | exact AllLt.ne (And.right (And.right (by assumption))) | exact AllLt.ne (And.right (And.right (And.right (by assumption)))))
noncomputable def dots : Str := txt [46, 46, 46]
theorem dots_eq : Str.ofString "..." = dots := rfl
open Builtin Builtin.Str StrLaws in
theorem at_dots {x : List Nat} (hx : 46 ∉ x) (k : Nat) : At (txt (x ++ [46, 46, 46])) dots (x.length + 3) k ↔ k = x.length := by
  have hd : dots.length = 3 := rfl
  constructor
  · rintro ⟨h1, h2⟩
    rw [hd] at h1
    unfold subAt at h2
    rw [hd] at h2
    have h3 := eq_of_beq h2
    have h4 : ((x ++ [46, 46, 46]).drop k).take 3 = [46, 46, 46] := by
      have := congrArg Array.toList h3
      simpa [txt, dots] using this
    refine Classical.byContradiction fun hne => ?_
    have hlt : k < x.length := by omega
    have h5 : ((x ++ [46, 46, 46]).drop k)[0]? = some 46 := by
      have := congrArg (·[0]?) h4
      simpa [List.getElem?_take_of_lt] using this
    rw [List.getElem?_drop, Nat.add_zero, List.getElem?_append_left hlt] at h5
    exact hx (List.mem_of_getElem? h5)
  · rintro rfl
    refine ⟨by rw [hd]; omega, ?_⟩
    unfold subAt
    rw [hd]
    have : (txt (x ++ [46, 46, 46])).cps.extract x.length (x.length + 3) = dots.cps := by
      apply Array.ext'
      simp [txt, dots]
    rw [this]; exact beq_self_eq_true _
open Builtin Builtin.Str StrLaws in
theorem occ_dots {x : List Nat} (hx : 46 ∉ x) : occurrences (txt (x ++ [46, 46, 46])) dots 0 (x.length + 3) (x.length + 3 + 1) = [x.length] := by
  have hl : (txt (x ++ [46, 46, 46])).length = x.length + 3 := by rw [txt_len]; simp
  obtain ⟨f, h1, h2⟩ := occ_tight (txt (x ++ [46, 46, 46])) dots (by decide)
  rw [hl] at h1 h2
  generalize occurrences (txt (x ++ [46, 46, 46])) dots 0 (x.length + 3) (x.length + 3 + 1) = l at *
  match l, h1 with
  | [], h1 =>
    have e : f = 0 := h1
    exact absurd ((at_dots hx x.length).mpr rfl) (h2 _ (by omega))
  | [c], h1 => rw [(at_dots hx c).mp h1.2.1]
  | c :: c' :: r, h1 =>
    have e1 := (at_dots hx c).mp h1.2.1
    have e2 := (at_dots hx c').mp h1.2.2.2.2.1
    have e3 := h1.2.2.2.1
    have hd : dots.length = 3 := rfl
    omega
open Builtin Builtin.Str StrLaws in
theorem found_dots {x : List Nat} (hx : 46 ∉ x) : (occurrences (txt (x ++ [46, 46, 46])) dots 0 (txt (x ++ [46, 46, 46])).length 1).isEmpty = false := by
  have := (found_iff (txt (x ++ [46, 46, 46])) dots).mpr ⟨x.length, ?_, ?_⟩
  · simpa using this
  · rw [txt_len]; simp; decide
  · have h := (at_dots hx x.length).mpr rfl
    exact h.2
open Builtin Builtin.Str StrLaws in
theorem split_dots {x : List Nat} (hx : 46 ∉ x) : Txt.split (txt (x ++ [46, 46, 46])) dots = [txt x, txt []] := by
  have hl : (txt (x ++ [46, 46, 46])).length = x.length + 3 := by rw [txt_len]; simp
  have hd : dots.length = 3 := rfl
  unfold Txt.split
  rw [hl, hd, occ_dots hx]
  rw [if_neg (by
    intro h
    rcases (Bool.or_eq_true _ _).mp h with h | h
    · have := of_decide_eq_true h; omega
    · have h1 := of_decide_eq_true h
      have h2 : Builtin.Str.strKind dots = 1 := by decide +kernel
      rw [h2] at h1
      unfold Builtin.Str.strKind at h1
      split at h1
      · omega
      · split at h1 <;> omega), if_neg (by simp)]
  unfold partsBetween
  rw [hl]
  show [strSub _ 0 x.length, strSub _ (x.length + 3) (x.length + 3)] = _
  unfold strSub txt
  congr 2
  · apply Array.ext'; simp
  · congr 2; apply Array.ext'; simp
open Builtin Builtin.Str StrLaws in
theorem occ_full (s sub : Str) (hi : Nat) : ∀ (l : List Nat) (st : Array Nat × Nat), 1 ≤ st.fst.size → (forIn l st (occBody s sub hi 1)).run.fst = st.fst
  | [], st, _ => rfl
  | a :: l, st, h => by
    rw [List.forIn_cons]
    unfold occBody
    rw [if_neg (by omega)]
    exact occ_full s sub hi l _ h
open Builtin Builtin.Str StrLaws in
theorem occ_nil (s : Str) {lo hi : Nat} (h : lo ≤ hi) : occurrences s (txt []) lo hi 1 = [lo] := by
  rw [occ_eq, show hi + 1 - lo = (hi - lo) + 1 by omega, List.range'_succ, List.forIn_cons]
  have e : occBody s (txt []) hi 1 lo (#[], lo) = pure (ForInStep.yield (#[lo], lo)) := by
    unfold occBody
    rw [if_pos ⟨⟨⟨Nat.zero_lt_one, Nat.le_refl _⟩, by show lo + 0 ≤ hi; omega⟩, by
      unfold subAt
      have : s.cps.extract lo (lo + (txt []).length) = (txt []).cps := by
        show s.cps.extract lo (lo + 0) = #[]
        apply Array.ext'; simp
      rw [this]; exact beq_self_eq_true _⟩]
    rfl
  rw [e]
  exact congrArg Array.toList (occ_full s (txt []) hi _ (#[lo], lo) (Nat.le_refl 1))
open Builtin Builtin.Str StrLaws PyProof in
theorem gives_find4 (x y : Str) (i j : Int) (t u v w : Tok) : Gives («str.find» ⟨[.str x t, .str y u, .int i v, .int j w], []⟩) (.int (match occurrences x y (fromIndex x.length i) (min (fromIndex x.length j) x.length) 1 with | k :: _ => (k : Int) | [] => -1)) := by
  show Gives (match occurrences x y (fromIndex x.length i) (min (fromIndex x.length j) x.length) 1 with | k :: _ => retInt k | [] => (do rule "str.find.not-found"; retInt (-1))) _
  cases occurrences x y (fromIndex x.length i) (min (fromIndex x.length j) x.length) 1 with
  | nil => exact .rule (.of_eq rfl)
  | cons k _ => exact .of_eq rfl
theorem call_find4 {prog : Program} {w : World} {A : Around} {E : Value → Shared → Prop} {s : Shared} {x : Str} {t u v z : Tok} {i : Nat} {Q : Value → Shared → Prop} (hi : i ≤ x.length) (hq : Q (.int i s.toks) { s with toks := s.toks + 1 }) :
    wpAny (model prog w) A (call (.builtin "str.find") [.str x t, .str (txt []) u, .int i v, .int x.length z]) Q E s := by
  refine call_gives F.slot_str_find (typeIs_str _ _ _) F.entry_str_find (F.args_str_find_4 _ _ _ _) (gives_find4 x (txt []) i x.length t u v z) ?_
  have e1 : fromIndex x.length (i : Int) = i := by unfold fromIndex; rw [if_neg (by omega)]; omega
  have e2 : fromIndex x.length (x.length : Int) = x.length := by unfold fromIndex; rw [if_neg (by omega)]; omega
  rw [e1, e2, Nat.min_self, occ_nil x hi]
  exact hq
open Builtin Builtin.Str in
theorem startswith_txt (x y : List Nat) : Txt.startswith (txt y) (txt x) = decide (x <+: y) := by
  unfold Txt.startswith subAt
  rw [txt_len, txt_len]
  by_cases h : x <+: y
  · rw [decide_eq_true h]
    have hle := h.length_le
    have e : (txt y).cps.extract 0 (0 + x.length) = (txt x).cps := by
      apply Array.ext'
      simp only [txt, List.extract_toArray, List.extract_eq_drop_take]
      rw [List.prefix_iff_eq_take.mp h]; simp
    rw [e, beq_self_eq_true, Bool.and_true]; simp; omega
  · rw [decide_eq_false h]
    by_cases hle : 0 + x.length ≤ y.length
    · have : ((txt y).cps.extract 0 (0 + x.length) == (txt x).cps) = false := by
        refine beq_false_of_ne fun e => h ?_
        rw [List.prefix_iff_eq_take]
        have := congrArg Array.toList e
        simp only [txt, List.extract_toArray, List.extract_eq_drop_take] at this
        simpa using this.symm
      rw [this, Bool.and_false]
    · rw [decide_eq_false hle, Bool.false_and]
theorem filledEll (P : Params) : PySem.Challenge.rw_wr0051_01 = PySem.Challenge.rw_wr0051_01 ∧ KK P = KK P := by k_fill; exact ⟨rfl, rfl⟩
theorem spec_ell {w : World} {mean : ExcName → Option Value} {mg mb : Str → Option Value} {B : Heap} (T : Top₁ mean mg mb B) (X : (KK w.params).In B)
    {A : Around} {L : Addr} {h : Heap} {g : Array GenState} {d : Drawn} {tk : Nat} {os : OsState} {news : List (Addr × Obj)} {m : Str → Option Value} {x y : List Nat} {t1 t2 : Tok} {Q E : Value → Shared → Prop}
    (F : Fr B L h m) (N : News B L h news) (hd : A.depth < recursionLimit) (hh : A.handled = none)
    (hx : 46 ∉ x) (hl : x.length ≤ 1000 ∧ y.length ≤ 1000)
    (hQ : ∀ h' tk', Fr B L h' m → News B L h' news → Q (.bool (decide (x <+: y))) ⟨h', g, d, tk', os⟩) :
    wpAny (M₁ w) A (call (.ref 92) [.str (txt (x ++ [46, 46, 46])) t1, .str (txt y) t2]) Q E ⟨h, g, d, tk, os⟩ := by
  obtain ⟨ah, ad, af, ag, au⟩ := A
  obtain rfl : ah = none := hh
  refine spec_fn (binds := [(u "want", Value.str (txt (x ++ [46, 46, 46])) t1), (u "got", .str (txt y) t2)]) (fun v => v = .bool (decide (x <+: y))) F N X T (by rfl) (by rfl) hd (by rfl) (locs (by rfl)) ?_ (fun v h' tk' e => e ▸ hQ h' tk') (by rfl) (by rfl) (by rfl) (by decide)
  intro L' h₁ fo Q' hlt F' N' hR
  have hlt0 : ∀ p ∈ (L, fo) :: news, p.1 < h₁.objs.size := fun p hp => Heap.lt_size (N' p hp).1
  clear F N
  have hfound := found_dots hx
  have hsplit := split_dots hx
  have hwl : (txt (x ++ [46, 46, 46])).length = x.length + 3 := by rw [txt_len]; simp
  generalize hwant : txt (x ++ [46, 46, 46]) = want at *
  refine execs_cutR (R := fun s' => ∃ tk', s' = ⟨h₁, g, d, tk', os⟩) ?_ ?_
  · intro Q' hQ _
    repeat' (first | (k_unfold; (try dsimp only)) | (walk1; (try dsimp only)) | (dsimp only; walk1))
    · rename_i hf
      rw [dots_eq, hfound] at hf
      cases hf
    · exact hQ _ ⟨_, rfl⟩
  rintro s' ⟨tk', rfl⟩
  refine execs_cut (R := fun s' => ∃ (h' : Heap) (tk' : Nat) (S : Addr) (ta tb : Tok), s' = ⟨h', g, d, tk', os⟩ ∧ Fr B L' h' (put (fun y' => List.lookup y' [(u "want", Value.str want t1), (u "got", Value.str (txt y) t2)].reverse) (u "ws") (.ref S)) ∧ News B L' h' ((S, W.listOf #[.str (txt x) ta, .str (txt []) tb] 0) :: (L, fo) :: news) ∧ (∀ p ∈ (L, fo) :: news, p.1 < S)) ?_ ?_
  · intro Q' hQ
    repeat' (first | (k_unfold; (try dsimp only)) | (walk1; (try dsimp only)) | (dsimp only; walk1))
    rename_i l _ _ hl1 hl2 hl3 hl4 h₂ F₂ N₂
    rw [dots_eq, hsplit] at hl1
    obtain ⟨ta, tb, rfl⟩ : ∃ ta tb, l = [(txt x, ta), (txt [], tb)] := by
      match l, hl1 with
      | [(a, ta), (b, tb)], e => cases e; exact ⟨ta, tb, rfl⟩
    exact hQ _ ⟨h₂, _, h₁.objs.size, ta, tb, rfl, F₂, N₂, hlt0⟩
  clear F' N' hsplit hfound
  rintro s' ⟨h', tk', S, ta, tb, rfl, F', N', hS⟩
  have hyl : (txt y).length = y.length := txt_len y
  have hxl : (txt x).length = x.length := txt_len x
  have hpre : Txt.startswith (txt y) (txt x) = decide (x <+: y) := startswith_txt x y
  generalize hgot : txt y = got at *
  generalize hw0 : txt x = w0 at *
  have hS2 : L < S ∧ AllLt S news := ⟨hS _ (.head _), allLt_of fun p hp => hS p (.tail _ hp)⟩
  have hSn : ∀ p ∈ news, p.1 ≠ S := fun p hp => Nat.ne_of_lt (hS p (.tail _ hp))
  refine execs_cut (R := fun s' => ∃ (h' : Heap) (tk' : Nat), s' = ⟨h', g, d, tk', os⟩ ∧ Fr B L' h' (put (fun y' => List.lookup y' [(u "want", Value.str want t1), (u "got", Value.str got t2)].reverse) (u "ws") (.ref S)) ∧ News B L' h' ((S, W.listOf #[.str w0 ta, .str (txt []) tb] 0) :: (L, fo) :: news)) ?_ ?_
  · intro Q' hQ
    repeat' (first | (k_unfold; (try dsimp only)) | (walk1; (try dsimp only)) | (dsimp only; walk1))
    exact hQ _ ⟨h', _, rfl, F', N'⟩
  clear F' N'
  rintro s' ⟨h', tk', rfl, F', N'⟩
  refine execs_cut (R := fun s' => ∃ (h' : Heap) (tk' : Nat) (ti tj : Tok), s' = ⟨h', g, d, tk', os⟩ ∧ Fr B L' h' (put (put (put (fun y' => List.lookup y' [(u "want", Value.str want t1), (u "got", Value.str got t2)].reverse) (u "ws") (.ref S)) (u "endpos") (.int got.length tj)) (u "startpos") (.int 0 ti)) ∧ News B L' h' ((S, W.listOf #[.str w0 ta, .str (txt []) tb] 0) :: (L, fo) :: news)) ?_ ?_
  · intro Q' hQ
    repeat' (first | (k_unfold; (try dsimp only)) | (walk1; (try dsimp only)) | (dsimp only; walk1))
    exact hQ _ ⟨_, _, _, _, rfl, by assumption, fun p hp => (by assumption : News _ _ _ ((_, _) :: (S, _) :: _)) p (.tail _ hp)⟩
  clear F' N'
  rintro s' ⟨h', tk', ti, tj, rfl, F', N'⟩
  refine execs_cut (R := fun s' => ∃ (h' : Heap) (tk' : Nat), s' = ⟨h', g, d, tk', os⟩ ∧ Fr B L' h' (put (put (put (put (fun y' => List.lookup y' [(u "want", Value.str want t1), (u "got", Value.str got t2)].reverse) (u "ws") (.ref S)) (u "endpos") (.int got.length tj)) (u "startpos") (.int 0 ti)) (u "w") (.str w0 ta)) ∧ News B L' h' ((S, W.listOf #[.str w0 ta, .str (txt []) tb] 0) :: (L, fo) :: news)) ?_ ?_
  · intro Q' hQ
    repeat' (first | (k_unfold; (try dsimp only)) | (walk1; (try dsimp only)) | (dsimp only; walk1))
    exact hQ _ ⟨_, _, rfl, by assumption, by assumption⟩
  clear F' N'
  rintro s' ⟨h', tk', rfl, F', N'⟩
  generalize hm : (put (put (fun y' => List.lookup y' [(u "want", Value.str want t1), (u "got", Value.str got t2)].reverse) (u "ws") (.ref S)) (u "endpos") (.int got.length tj)) = mm at F'
  refine execs_cutR (R := fun s' => ∃ (h' : Heap) (tk' c : Nat) (us : List Value) (sp : Nat) (ti : Tok) (tw : Value), s' = ⟨h', g, d, tk', os⟩ ∧ Fr B L' h' (put (put mm (u "startpos") (.int sp ti)) (u "w") tw) ∧ News B L' h' ((S, W.listOf us.toArray c) :: (L, fo) :: news) ∧
    x <+: y ∧ sp ≤ y.length ∧ ((us = [.str w0 ta, .str (txt []) tb] ∧ w0 = txt []) ∨ us = [.str (txt []) tb])) ?_ ?_
  · intro Q' hQ hret
    subst hm
    repeat' (first | (k_unfold; (try dsimp only)) | ((with_reducible show wpAny _ _ (delItem _ _) _ _ _); refine ki_del (D := S) (its := #[.str w0 ta, .str (txt []) tb]) (n := 0) (news := (S, W.listOf #[.str w0 ta, .str (txt []) tb] 0) :: (L, fo) :: news) (news' := (S, W.listOf #[.str (txt []) tb] 1) :: (L, fo) :: news) (k := 0) (q := [.str (txt []) tb]) (by assumption) (by assumption) rfl rfl rfl (.head (List.forall_mem_cons.mpr ⟨Nat.ne_of_lt hS2.1, hSn⟩)) (show 2 ≤ sizeLine by decide) ?_; intro h₃ F₃ N₃) | (walk1; (try dsimp only)) | (dsimp only; walk1))
    · have hst : Txt.startswith got w0 = true := by assumption
      rw [hst] at hpre
      have hp := of_decide_eq_true hpre.symm
      rename_i tkx _ _ _ _ _
      rw [hxl] at F₃
      refine hQ _ ⟨h₃, _, 1, [.str (txt []) tb], x.length, tkx + 1, .str w0 ta, rfl, ?_, N₃, hp, hp.length_le, .inr rfl⟩
      rw [← put3 (by decide) _ (.int 0 ti)]
      exact F₃
    · rename_i hst
      rw [hst] at hpre
      exact hret _ _ (hR _ _ _ _ (by rw [← hpre]; rfl) F' (fun p hp => N' p (.tail _ hp)))
    · rename_i he
      have hx0 : x = [] := List.eq_nil_of_length_eq_zero (by omega)
      subst hx0
      exact hQ _ ⟨_, _, 0, [.str w0 ta, .str (txt []) tb], 0, _, _, rfl, F', N', List.nil_prefix, Nat.zero_le _, .inl ⟨rfl, hw0.symm⟩⟩
  clear F' N'
  rintro s' ⟨h', tk', c, us, sp, ti, tw, rfl, F', N', hpr, hsp, hus⟩
  subst hm
  have hall : ∀ v ∈ us, ∃ t, v = .str (txt []) t := by
    rcases hus with ⟨rfl, rfl⟩ | rfl
    · intro v hv
      rcases List.mem_cons.mp hv with rfl | hv
      · exact ⟨_, rfl⟩
      · rw [List.mem_singleton.mp hv]; exact ⟨_, rfl⟩
    · intro v hv
      rw [List.mem_singleton.mp hv]; exact ⟨_, rfl⟩
  refine execs_cutR (R := fun s' => ∃ (h' : Heap) (tk' : Nat) (tw : Value), s' = ⟨h', g, d, tk', os⟩ ∧ Fr B L' h' (put (put (put (put (fun y' => List.lookup y' [(u "want", Value.str want t1), (u "got", Value.str got t2)].reverse) (u "ws") (.ref S)) (u "endpos") (.int got.length tj)) (u "startpos") (.int sp ti)) (u "w") (.str (txt []) tb)) ∧ News B L' h' ((S, W.listOf us.toArray c) :: (L, fo) :: news)) ?_ ?_
  · intro Q' hQ hret
    rcases hus with ⟨rfl, _⟩ | rfl
    · repeat' (first | (k_unfold; (try dsimp only)) | (walk1; (try dsimp only)) | (dsimp only; walk1))
      rename_i F₂ N₂
      refine hQ _ ⟨_, _, .str (txt []) tb, rfl, ?_, N₂⟩
      rw [← put_put _ (u "w") tw]
      exact F₂
    · repeat' (first | (k_unfold; (try dsimp only)) | (walk1; (try dsimp only)) | (dsimp only; walk1))
      rename_i F₂ N₂
      refine hQ _ ⟨_, _, .str (txt []) tb, rfl, ?_, N₂⟩
      rw [← put_put _ (u "w") tw]
      exact F₂
  clear F' N'
  rintro s' ⟨h', tk', tw, rfl, F', N'⟩
  generalize hmm : (put (put (fun y' => List.lookup y' [(u "want", Value.str want t1), (u "got", Value.str got t2)].reverse) (u "ws") (.ref S)) (u "endpos") (.int got.length tj)) = mm at F'
  refine execs_cutR (R := fun s' => ∃ (h' : Heap) (tk' : Nat), s' = ⟨h', g, d, tk', os⟩ ∧ Fr B L' h' (put (put mm (u "startpos") (.int sp ti)) (u "w") (.str (txt []) tb)) ∧ News B L' h' ((S, W.listOf us.toArray c) :: (L, fo) :: news)) ?_ ?_
  · intro Q' hQ hret
    subst hmm
    repeat' (first | (k_unfold; (try dsimp only)) | (walk1; (try dsimp only)) | (dsimp only; walk1))
    exact hQ _ ⟨_, _, rfl, F', N'⟩
  clear F' N'
  rintro s' ⟨h', tk', rfl, F', N'⟩
  subst hmm
  refine execs_cutR (R := fun s' => ∃ (h' : Heap) (tk' : Nat), s' = ⟨h', g, d, tk', os⟩ ∧ Fr B L' h' (put (put (put (put (fun y' => List.lookup y' [(u "want", Value.str want t1), (u "got", Value.str got t2)].reverse) (u "ws") (.ref S)) (u "endpos") (.int got.length tj)) (u "startpos") (.int sp ti)) (u "w") (.str (txt []) tb)) ∧ News B L' h' ((S, W.listOf us.toArray c) :: (L, fo) :: news)) ?_ ?_
  · intro Q' hQ hret
    repeat' (first | (k_unfold; (try dsimp only)) | (walk1; (try dsimp only)) | (dsimp only; walk1))
    exact hQ _ ⟨_, _, rfl, F', N'⟩
  clear F' N'
  rintro s' ⟨h', tk', rfl, F', N'⟩
  generalize hmm : (put (put (fun y' => List.lookup y' [(u "want", Value.str want t1), (u "got", Value.str got t2)].reverse) (u "ws") (.ref S)) (u "endpos") (.int got.length tj)) = mm at F'
  refine execs_cutR (R := fun s' => ∃ (h' : Heap) (tk' : Nat) (m' : Str → Option Value), s' = ⟨h', g, d, tk', os⟩ ∧ Fr B L' h' m' ∧ News B L' h' ((L, fo) :: news)) ?_ ?_
  · intro Q' hQ hret
    subst hmm
    refine for_gen B (by rfl) (by rfl) ?_
    repeat' (first | (k_unfold; (try dsimp only)) | ((fail_if_success (with_reducible show wpAny _ _ (pyIter _) _ _ _)); walk1; (try dsimp only)) | (dsimp only; (fail_if_success (with_reducible show wpAny _ _ (pyIter _) _ _ _)); walk1))
    generalize hmm : (put (put (fun y' => List.lookup y' [(u "want", Value.str want t1), (u "got", Value.str got t2)].reverse) (u "ws") (.ref S)) (u "endpos") (.int got.length tj)) = mm at F'
    refine iter_list (fun i m₁ news₁ => ∃ (ti tw : Tok), m₁ = put (put mm (u "startpos") (.int sp ti)) (u "w") (.str (txt []) tw) ∧ news₁ = (S, W.listOf us.toArray c) :: (L, fo) :: news) F' N' (.head _) (by rfl) ?_ ⟨_, _, rfl, rfl⟩ ?_ ?_
    · rintro i m' n' ⟨_, _, _, rfl⟩; exact .head _
    · clear N' F'
      rintro I io i v m₁ news₁ h₁ tk₁ Q₁ hv ⟨ti, tw, rfl, rfl⟩ hI hIn F₁ N₁ hnext hret
      obtain ⟨tw', rfl⟩ := hall v (by have := List.mem_of_getElem? (l := us) (by simpa using hv); exact this)
      have e : put (put (put mm (u "startpos") (.int sp ti)) (u "w") (.str (txt []) tw)) (u "w") (.str (txt []) tw') = put (put mm (u "startpos") (.int sp ti)) (u "w") (.str (txt []) tw') := by
        funext z; simp only [put]; split <;> rfl
      rw [e] at F₁
      clear e
      subst hmm
      have hem : (txt []).length = 0 := rfl
      repeat' (first | (k_unfold; (try dsimp only)) | ((with_reducible show wpAny _ _ (call (Value.builtin "str.find") _) _ _ _); refine call_find4 (by omega) ?_; (try dsimp only)) | (walk1; (try dsimp only)) | (dsimp only; walk1))
      rename_i tkb h₂ F₂ N₂
      refine hnext h₂ _ _ _ F₂ N₂ hI ⟨tkb + 1 + 1, tw', ?_, rfl⟩
      show put (put (put (put _ _ _) _ _) _ _) _ _ = _
      rw [put_put, put3 (by decide), hem, show (sp : Int) + (0 : Nat) = sp by omega]
    · rintro h₃ tk₃ m₃ news₃ F₃ N₃ ⟨ti, tw, rfl, rfl⟩
      exact hQ _ ⟨h₃, _, _, rfl, F₃, fun p hp => N₃ p (.tail _ hp)⟩
  clear F' N'
  rintro s' ⟨h', tk', m', rfl, F', N'⟩
  repeat' (first | (k_unfold; (try dsimp only)) | (walk1; (try dsimp only)) | (dsimp only; walk1))
  exact hR _ _ _ _ (by rw [decide_eq_true hpr]; rfl) F' N'
end Mine
set_option maxRecDepth 100000
set_option maxHeartbeats 1000000
namespace Mine
open PySem PySem.W PySem.Calls PyProof.Rows
theorem item_txt_neg {l : List Nat} {k : Int} {n : Nat} (h0 : k < 0) (h1 : -(l.length : Int) ≤ k) (hn : l[(k + l.length).toNat]? = some n) : Txt.item (txt l) k = txt [n] := by
  have e := eq_of_beq (item_closes_neg (x := txt l) (i := k) (j := k + l.length) h0 (by rw [txt_len]; exact h1) (by rw [txt_len]))
  rw [e]
  show Str.mk _ = Str.mk _
  have : (txt l).cps.getD (k + l.length).toNat 0 = n := by
    show l.toArray.getD _ 0 = n
    rw [Array.getD_eq_getD_getElem?]; simp [hn]
  rw [this]
theorem slice_txt_to_neg {l : List Nat} {k : Int} (h0 : k < 0) (h1 : -(l.length : Int) ≤ k) : Txt.slice (txt l) none (some k) = txt (l.take (k + l.length).toNat) := by
  have e := eq_of_beq (slice_closes_to_neg (x := txt l) (j := k) (k := k + l.length) h0 (by rw [txt_len]; exact h1) (by rw [txt_len]))
  rw [e]
  unfold txt
  congr 1
  simp
theorem item_txt_last {l : List Nat} {a : Nat} (h : l.getLast? = some a) : Txt.item (txt l) (-1) = txt [a] := by
  have hl : 0 < l.length := by
    cases l with
    | nil => cases h
    | cons _ _ => simp
  refine item_txt_neg (by decide) (by omega) ?_
  rw [List.getLast?_eq_getElem?] at h
  rw [← h]; congr 1; omega
theorem slice_txt_init {l : List Nat} (h : 0 < l.length) : Txt.slice (txt l) none (some (-1)) = txt l.dropLast := by
  rw [slice_txt_to_neg (by decide) (by omega), List.dropLast_eq_take]
  congr 2; omega
theorem txt_app (a b : List Nat) : txt a ++ txt b = txt (a ++ b) := by
  show Str.mk (a.toArray ++ b.toArray) = _
  unfold txt; simp
end Mine
set_option maxRecDepth 100000
set_option maxHeartbeats 1000000
namespace Mine
open PySem PySem.W PySem.Calls PyProof.Rows
section
variable {prog : Program} {w : World} {A : Around} {E : Value → Shared → Prop} {s : Shared} {K : Frag} {x C : Addr} {ox : Obj} {od : Option Obj} {name : Str}
/-- a list's method or slot, called on an object whose class is one of the text's and has list among its bases -/
theorem call_sub {id n : String} {b : Builtin} {rest : List Value} {Q : Value → Shared → Prop} (X : K.In s.heap) (I : PySem.W.InstAt s.heap x ox C od) (hm : mroIn K C (.type "list") = some true)
    (hsplit : splitId id = some ("list", n)) (hkind : (Manifest.find? "list").bind (·.attrs.lookup n) = some .slot ∨ (Manifest.find? "list").bind (·.attrs.lookup n) = some .method)
    (hb : entryFor table id = some b) (ha : argsOk id ⟨.ref x :: rest, []⟩)
    (hc : wpAny (model prog w) A.in1 (b ⟨.ref x :: rest, []⟩) (fun fin s' => ∃ v, fin = .done (.ret v) ∧ Q v s') E s) (hplain : plainId id = true := by decide +kernel) :
    wpAny (model prog w) A (call (.builtin id) (.ref x :: rest)) Q E s := by
  have hk : builtinKind id = (Manifest.find? "list").bind (·.attrs.lookup n) := by simp only [builtinKind, hsplit]
  refine wpAny_call (codeAny_call_builtin hplain hb ?_)
  have hin : Looks (model prog w) s.heap (isInstance (.ref x) (.type "list")) true := (I.type).andThen (looks_mroIn X hm)
  rcases hkind with h | h <;>
  · simp only [checkBuiltinCall, hk, h, hsplit]
    refine wpAny_bind (hin.here ?_)
    simp only [Bool.not_true, Bool.false_eq_true, if_false]
    cases hsig : Manifest.signature? id with
    | none => exact wpAny_pure (wpAny_mono hc (fun fin s' h' => by obtain ⟨v, rfl, hv⟩ := h'; exact hv) fun _ _ h' => h')
    | some sig =>
      simp only [argsOk, hsig] at ha
      have h2 : Bind.checkArgs id sig ⟨.ref x :: rest, []⟩ = pure () := ha
      show wpAny _ _ (Bind.checkArgs id sig ⟨.ref x :: rest, []⟩) _ _ _
      rw [h2]; exact wpAny_pure (wpAny_mono hc (fun fin s' h' => by obtain ⟨v, rfl, hv⟩ := h'; exact hv) fun _ _ h' => h')
/-- a method of any kind found on the class -/
theorem method_any {gid : String} {a t : Value} {pl : Sem Bool} {Q : Value × List Value → Shared → Prop} (X : K.In s.heap) (I : PySem.W.InstAt s.heap x ox C od) (hga : findIn K (.ref C) "__getattribute__" = some (some (.builtin gid))) (hcan : (Manifest.canonical gid != "object.__getattribute__") = false) (hk : findIn K (.ref C) "__getattr__" = some none)
    (hf : findIn K (.ref C) name = some (some a)) (ht : typeIn K a = some t) (htt : (t != .type "function" && t != .type "method_descriptor" && t != .type "wrapper_descriptor") = false) (hs : shadowIn od name = some false) (h : Q (a, [.ref x]) s) :
    wpAny (model prog w) A (getMethod (.ref x) name pl) Q E s := by
  unfold getMethod specialOf
  refine wpAny_bind (wpAny_bind (I.type.here ((looks_findIn X hga).here ?_)))
  dsimp only
  rw [hcan, if_neg (by decide)]
  refine wpAny_bind (wpAny_bind (I.type.here ((looks_findIn X hk).here ?_)))
  refine wpAny_bind (wpAny_bind (I.type.here ((looks_findIn X hf).here (wpAny_bind ((looks_typeIn X ht).here ?_)))))
  rw [htt]
  refine wpAny_bind (wpAny_loadPart I.at_ ?_)
  have hd := I.dict
  cases e : ox.dict with
  | none => exact wpAny_bind (wpAny_rule (wpAny_pure h))
  | some dx =>
    cases od with
    | none => rw [e] at hd; exact hd.elim
    | some o =>
      rw [e] at hd
      obtain ⟨r, a, b⟩ := Option.map_eq_some_iff.mp hs
      refine wpAny_bind (wpAny_bind (wpAny_loadPart hd ?_))
      rw [nsLook_of a]
      refine wpAny_pure ?_
      rw [b]
      exact wpAny_bind (wpAny_rule (wpAny_pure h))
end

noncomputable abbrev pileO (dx : Addr) (items : Array Value) (c : Nat) : Obj := ⟨.ref 172, some dx, .seq items c, #[]⟩
theorem mapSeq_pile {dx : Addr} {items : Array Value} {c : Nat} {f : Array Value → Array Value} (h : (f items).size ≠ items.size) : Obj.mapSeq f (pileO dx items c) = pileO dx (f items) (c + 1) := by
  unfold Obj.mapSeq
  simp [h]
section
variable {w : World} {A : Around} {E : Value → Shared → Prop} {s : Shared} {B : Heap} {L : Addr} {m : Str → Option Value} {news : List (Addr × Obj)} {x dx : Addr} {items : Array Value} {c : Nat} {od : Obj}
theorem inst_pile {h : Heap} (N : News B L h news) (h1 : (x, pileO dx items c) ∈ news) (h2 : (dx, od) ∈ news) : PySem.W.InstAt h x (pileO dx items c) 172 (some od) := ⟨(N _ h1).1, rfl, rfl, (N _ h2).1⟩
/-- the object's own dict holds the first size and no method -/
structure Own (od : Obj) (first : Value) : Prop where
  size : lookIn (u "_initial_size") od = some (some first)
  push : lookIn (u "push") od = some none
  append : lookIn (u "append") od = some none
  pop : lookIn (u "pop") od = some none
  popFrom : lookIn (u "pop_from") od = some none
  count : lookIn (u "part_count") od = some none
theorem pile_append {v : Value} {Q : Value → Shared → Prop} {news' : List (Addr × Obj)} (X : (KK w.params).In B) (F : Fr B L s.heap m) (N : News B L s.heap news) (h1 : (x, pileO dx items c) ∈ news) (h2 : (dx, od) ∈ news)
    (U : Upd x (pileO dx items c) (pileO dx (items.push v) (c + 1)) news news')
    (h : ∀ h', Fr B L h' m → News B L h' news' → Q .none { s with heap := h' }) (hsz : items.size ≤ sizeLine) : wpAny (M₁ w) A (call (.builtin "list.append") [.ref x, v]) Q E s := by
  have I := inst_pile N h1 h2
  refine call_sub (X.keeps F.keep) I (by rfl) (n := "append") (by decide +kernel) (by decide +kernel) entry_list_append (args_list_append _ _) ?_
  obtain ⟨pre, post, rfl, rfl, a, b⟩ := U.split
  have z := N (x, pileO dx items c) (List.mem_append.mpr (.inr (.head _)))
  show wpAny _ _ (updateSeq x (·.push v) >>= fun _ => ret .none) _ _ s
  refine wpAny_bind ?_
  refine wpAny_updateSeq z.1 rfl (wpAny_pure ⟨.none, rfl, ?_⟩)
  refine h _ (F.change (Heap.SameBut.update ..) z.2.1 z.2.2) (news_set N a b (Heap.SameBut.update ..) ?_)
  rw [Heap.get?_update_self _ z.1 (by rw [mapSeq_pile (show (items.push v).size ≠ items.size by rw [Array.size_push]; omega)]; rfl), mapSeq_pile (show (items.push v).size ≠ items.size by rw [Array.size_push]; omega)]
end
section
variable {w : World} {mean : ExcName → Option Value} {mg mb : Str → Option Value} {B : Heap} {A : Around} {L : Addr} {m : Str → Option Value} {news : List (Addr × Obj)}
theorem at_of_any {α : Type} {M : Model} {A : Around} {c : Code} {t : Sem α} {Q : α → Shared → Prop} {E : Value → Shared → Prop} {s : Shared} (h : wpAny M A t Q E s) : _root_.PySem.wpAt M A c t Q E s := fun Γ p _ hΓ => h Γ p hΓ
/-- a method of the text is called; its body stands at its own code -/
theorem spec_at {f : Addr} {name qual : Str} {params : Arguments} {body : List Stmt} {scope : Scope} {cl : List (Str × Addr)} {dV kV doc pm cdv ct oc : Value} {an od : Option Addr} {osl : Array (Option Value)} {vals : List Value} {binds : List (Str × Value)} {h : Heap} {g : Array GenState} {d : Drawn} {tk : Nat} {os : OsState}
    {Q : Value → Shared → Prop} {E : Value → Shared → Prop} (Res : Value → List (Addr × Obj) → Prop)
    (F : Fr B L h m) (N : News B L h news) (X : (KK w.params).In B) (T : Top₁ mean mg mb B)
    (hf : (KK w.params).lookup f = some ⟨oc, od, .func (fnX name qual params body scope cl dV kV doc pm an cdv ct), osl⟩) (hc : codeIn (KK w.params) cdv qual = true) (hroom : A.depth < recursionLimit)
    (hbind : BindsTo ⟨h, g, d, tk, os⟩ (fnX name qual params body scope cl dV kV doc pm an cdv ct) ⟨vals, []⟩ binds) (hloc : ∀ x ∈ binds, scope.names.lookup x.1 = some .local)
    (hbody : ∀ L' h₁ fo (Q' : Flow → Shared → Prop), L < L' → Fr B L' h₁ (fun x => binds.reverse.lookup x) → News B L' h₁ ((L, fo) :: news) →
      (∀ fl h' tk' m' news', Res (outOf fl) news' → Fr B L' h' m' → News B L' h' ((L, fo) :: news') → (∀ p ∈ news', p.1 ≠ L) → Q' fl ⟨h', g, d, tk', os⟩) →
      _root_.PySem.wpAt (M₁ w) (A.deeper (envX qual scope L' f cdv cl)) (.func body (envX qual scope L' f cdv cl)) (execs body (envX qual scope L' f cdv cl)) Q' (fun _ _ => False) ⟨h₁, g, d, tk + binds.length, os⟩)
    (hQ : ∀ v h' tk' news', Res v news' → Fr B L h' m → News B L h' news' → Q v ⟨h', g, d, tk', os⟩)
    (hco : scope.isCoroutine = false := by rfl) (hgen : scope.isGenerator = false := by rfl) (hk : scope.kind = .function := by rfl) (hcell : ∀ x ∈ scope.names, x.2 ≠ .cell := by decide) :
    wpAny (M₁ w) A (call (.ref f) vals) Q E ⟨h, g, d, tk, os⟩ := by
  have X' : (KK w.params).In h := X.keeps F.keep
  obtain ⟨fo, hfo⟩ := frame_at F
  refine wpAny_call (ks_codeAny_call_defAt (fd := fnX name qual params body scope cl dV kV doc pm an cdv ct) (body := body) (binds := binds) hroom (X' _ _ hf) rfl (T.nolimit.keeps F.keep) (codeRec_of X' hc) rfl hbind hcell hloc (fun h₁ hns hk₁ => ?_) hco hgen hk)
  have F₁ : Fr B h.objs.size h₁ (fun x => binds.reverse.lookup x) := ⟨hns, fun b o e => hk₁ _ _ (F.keep _ _ e), frame_size F⟩
  have N₁ : News B h.objs.size h₁ ((L, fo) :: news) := by
    intro p hp
    rcases List.mem_cons.mp hp with rfl | hp
    · exact ⟨hk₁ _ _ hfo, Nat.ne_of_lt (Heap.lt_size hfo), get_none_of_size F.above⟩
    · obtain ⟨a, b, c⟩ := N p hp
      exact ⟨hk₁ _ _ a, Nat.ne_of_lt (Heap.lt_size a), c⟩
  refine ks_wpAt_mono (hbody h.objs.size h₁ fo _ (Heap.lt_size hfo) F₁ N₁ ?_) (fun _ _ z => z) (fun _ _ z => z.elim)
  intro fl h' tk' m' news' hr F'' N'' hne
  have hL := (N'' _ (.head _)).1
  obtain ⟨o, es, ep, ho, r⟩ := F.ns
  obtain rfl : o = fo := Option.some.inj (ho.symm.trans hfo)
  exact hQ (outOf fl) h' tk' news' hr ⟨⟨o, es, ep, hL, r⟩, F''.keep, F.above⟩ fun p hp => ⟨(N'' _ (.tail _ hp)).1, hne p hp, (N'' _ (.tail _ hp)).2.2⟩
end
end Mine
set_option maxRecDepth 100000
set_option maxHeartbeats 1000000
namespace Mine
open PySem PySem.W PySem.Calls PyProof.Rows
theorem AllLt.lt {d : Nat} : ∀ {l : List (Addr × Obj)}, AllLt d l → ∀ p ∈ l, p.1 < d
  | [], _, p, hp => nomatch hp
  | q :: r, h, p, hp => by
    rcases List.mem_cons.mp hp with rfl | hp
    · exact h.1
    · exact AllLt.lt h.2 p hp
theorem filledCls2 (P : Params) : PySem.Challenge.rw_wr0051_01 = PySem.Challenge.rw_wr0051_01 ∧ KK P = KK P := by k_fill; exact ⟨rfl, rfl⟩
theorem pile_method_append {w : World} {A : Around} {E : Value → Shared → Prop} {s : Shared} {B : Heap} {L : Addr} {m : Str → Option Value} {news : List (Addr × Obj)} {x dx : Addr} {items : Array Value} {c : Nat} {od : Obj} {first : Value} {pl : Sem Bool} {Q : Value × List Value → Shared → Prop}
    (X : (KK w.params).In B) (F : Fr B L s.heap m) (N : News B L s.heap news) (h1 : (x, pileO dx items c) ∈ news) (h2 : (dx, od) ∈ news) (O : Own od first) (h : Q (.builtin "list.append", [.ref x]) s) : wpAny (M₁ w) A (getMethod (.ref x) (Str.ofString "append") pl) Q E s :=
  method_any (t := .type "method_descriptor") (X.keeps F.keep) (inst_pile N h1 h2) (gid := "list.__getattribute__") (by kernel_rfl) (by decide +kernel) (by kernel_rfl) (by kernel_rfl) (by kernel_rfl) (by decide +kernel) (by show (lookIn (u "append") od).map _ = _; rw [O.append]; rfl) h
/-- push: the pair goes to the end of the pile -/
theorem spec_push {w : World} {mean : ExcName → Option Value} {mg mb : Str → Option Value} {B : Heap} (T : Top₁ mean mg mb B) (X : (KK w.params).In B)
    {A : Around} {L : Addr} {h : Heap} {g : Array GenState} {d : Drawn} {tk : Nat} {os : OsState} {news : List (Addr × Obj)} {gn : Value → List (Addr × Obj)} {m : Str → Option Value} {x dx : Addr} {items : Array Value} {c : Nat} {od : Obj} {first : Value} {fws str : Str} {t1 t2 : Tok} {Q E : Value → Shared → Prop}
    (F : Fr B L h m) (N : News B L h news) (h1 : (x, pileO dx items c) ∈ news) (h2 : (dx, od) ∈ news) (U : ∀ v, Upd x (pileO dx items c) (pileO dx (items.push v) (c + 1)) news (gn v)) (O : Own od first) (hd : A.depth < recursionLimit) (hh : A.handled = none)
    (hsz : items.size ≤ sizeLine) (hne : ∀ v, ∀ p ∈ gn v, p.1 ≠ L)
    (hQ : ∀ h' tk' T, Fr B L h' m → News B L h' ((T, ⟨.type "tuple", none, .seq #[.str fws t1, .str str t2] 0, #[]⟩) :: gn (.ref T)) → (∀ p ∈ news, p.1 < T) → L < T → Q .none ⟨h', g, d, tk', os⟩) :
    wpAny (M₁ w) A (call (.ref 116) [.ref x, .str fws t1, .str str t2]) Q E ⟨h, g, d, tk, os⟩ := by
  obtain ⟨ah, ad, af, ag, au⟩ := A
  obtain rfl : ah = none := hh
  refine spec_at (binds := [(u "self", Value.ref x), (u "fws", .str fws t1), (u "string", .str str t2)]) (fun v news' => v = .none ∧ ∃ T, news' = ((T, ⟨.type "tuple", none, .seq #[.str fws t1, .str str t2] 0, #[]⟩) :: gn (.ref T)) ∧ (∀ p ∈ news, p.1 < T) ∧ L < T) F N X T (by rfl) (by rfl) hd (.of_eq (by rfl)) (locs (by rfl)) ?_ ?_ (by rfl) (by rfl) (by rfl) (by decide)
  · intro L' h₁ fo Q' hlt F' N' hR
    have hxL := (N _ h1).2.1
    clear F N
    refine at_of_any ?_
    repeat' (first | (k_unfold; (try dsimp only)) | ((with_reducible show wpAny _ _ (getMethod (Value.ref x) (Str.ofString "append") _) _ _ _); refine pile_method_append X (by assumption) (by assumption) (.tail _ h1) (.tail _ h2) O ?_) | (walk1; (try dsimp only)) | (dsimp only; walk1))
    rename_i D _ F₁ N₁ l1
    have hlt : ∀ p ∈ news, p.1 < D := AllLt.lt l1.2
    refine pile_append X F₁ N₁ (.tail _ (.tail _ h1)) (.tail _ (.tail _ h2)) (.tail (Nat.ne_of_gt (hlt _ h1)) (.tail (Ne.symm hxL) (U _))) ?_ hsz
    intro h₂ F₂ N₂
    dsimp only
    repeat' (first | (k_unfold; (try dsimp only)) | (walk1; (try dsimp only)) | (dsimp only; walk1))
    refine hR .next _ _ _ _ ⟨rfl, D, rfl, hlt, l1.1⟩ F₂ (fun p hp => ?_) ?_
    · rcases List.mem_cons.mp hp with rfl | hp
      · exact N₂ _ (.tail _ (.head _))
      rcases List.mem_cons.mp hp with rfl | hp
      · exact N₂ _ (.head _)
      · exact N₂ _ (.tail _ (.tail _ hp))
    · intro p hp
      rcases List.mem_cons.mp hp with rfl | hp
      · exact Nat.ne_of_gt l1.1
      · exact hne _ p hp
  · rintro v h' tk' news' ⟨rfl, T, rfl, hlt, hl⟩ F' N'
    exact hQ h' tk' T F' N' hlt hl
end Mine
set_option maxRecDepth 100000
set_option maxHeartbeats 1000000
namespace Mine
open PySem PySem.W PySem.Calls PyProof.Rows
theorem slot_wget : Slot "wrapper_descriptor" "__get__" "wrapper_descriptor.__get__" := .of (owner := "wrapper_descriptor") (n := "__get__") (by rw [typeLookup_type, builtinLookup_eq_fast]; kernel_rfl) (by decide +kernel) (by decide +kernel) (by decide +kernel) (by decide +kernel) (by first | rfl | kernel_rfl)
theorem slot_mget : Slot "method_descriptor" "__get__" "method_descriptor.__get__" := .of (owner := "method_descriptor") (n := "__get__") (by rw [typeLookup_type, builtinLookup_eq_fast]; kernel_rfl) (by decide +kernel) (by decide +kernel) (by decide +kernel) (by decide +kernel) (by first | rfl | kernel_rfl)
theorem entry_wget : entryFor table "wrapper_descriptor.__get__" = some Builtin.«wrapper_descriptor.__get__» := entryFor_of_tree (by kernel_rfl)
theorem entry_mget : entryFor table "method_descriptor.__get__" = some Builtin.«method_descriptor.__get__» := entryFor_of_tree (by kernel_rfl)
theorem args_wget (a b c : Value) : argsOk "wrapper_descriptor.__get__" ⟨[a, b, c], []⟩ := by unfold argsOk; kernel_rfl
theorem args_mget (a b c : Value) : argsOk "method_descriptor.__get__" ⟨[a, b, c], []⟩ := by unfold argsOk; kernel_rfl
theorem type_linit : typeOf (.builtin "list.__init__") = pure (.type "wrapper_descriptor") := by show builtinType _ = _; rw [builtinType_eq_fast]; kernel_rfl
theorem type_llen : typeOf (.builtin "list.__len__") = pure (.type "wrapper_descriptor") := by show builtinType _ = _; rw [builtinType_eq_fast]; kernel_rfl
theorem type_lpop : typeOf (.builtin "list.pop") = pure (.type "method_descriptor") := by show builtinType _ = _; rw [builtinType_eq_fast]; kernel_rfl
section
variable {prog : Program} {w : World} {A : Around} {E : Value → Shared → Prop} {s : Shared} {K : Frag} {x C : Addr} {ox : Obj} {od : Option Obj} {name : Str}
theorem get_init {Q : Value → Shared → Prop} (X : K.In s.heap) (I : PySem.W.InstAt s.heap x ox C od) (hm : mroIn K C (.type "list") = some true)
    (h : Q (.ref s.heap.objs.size) { s with heap := s.heap.push { cls := .type "method-wrapper", data := .fields #[.builtin "list.__init__", .ref x] } }) :
    wpAny (model prog w) A (call (.builtin "wrapper_descriptor.__get__") [.builtin "list.__init__", .ref x, .ref C]) Q E s := by
  have hin : Looks (model prog w) s.heap (isInstance (.ref x) (.type "list")) true := (I.type).andThen (looks_mroIn X hm)
  refine wpAny_call_entry slot_wget type_linit entry_wget ?_ (args_wget _ _ _)
  unfold Builtin.«wrapper_descriptor.__get__»
  refine wpAny_bind (wpAny_of_eq (show _ = pure (Value.builtin "list.__init__", some (Value.ref x), some (Value.ref C)) by kernel_rfl) ?_)
  dsimp only
  refine wpAny_bind ?_
  refine wpAny_bind (wpAny_of_eq (show _ = pure ((Str.ofString "__init__"), Value.type "list") by kernel_rfl) ?_)
  dsimp only
  refine wpAny_bind (hin.here ?_)
  rw [if_neg (by decide)]
  refine wpAny_pure ?_
  refine wpAny_bind ?_
  refine wpAny_newObj_type (wpAny_pure ⟨_, rfl, h⟩)
theorem get_len {Q : Value → Shared → Prop} (X : K.In s.heap) (I : PySem.W.InstAt s.heap x ox C od) (hm : mroIn K C (.type "list") = some true)
    (h : Q (.ref s.heap.objs.size) { s with heap := s.heap.push { cls := .type "method-wrapper", data := .fields #[.builtin "list.__len__", .ref x] } }) :
    wpAny (model prog w) A (call (.builtin "wrapper_descriptor.__get__") [.builtin "list.__len__", .ref x, .ref C]) Q E s := by
  have hin : Looks (model prog w) s.heap (isInstance (.ref x) (.type "list")) true := (I.type).andThen (looks_mroIn X hm)
  refine wpAny_call_entry slot_wget type_llen entry_wget ?_ (args_wget _ _ _)
  unfold Builtin.«wrapper_descriptor.__get__»
  refine wpAny_bind (wpAny_of_eq (show _ = pure (Value.builtin "list.__len__", some (Value.ref x), some (Value.ref C)) by kernel_rfl) ?_)
  dsimp only
  refine wpAny_bind ?_
  refine wpAny_bind (wpAny_of_eq (show _ = pure ((Str.ofString "__len__"), Value.type "list") by kernel_rfl) ?_)
  dsimp only
  refine wpAny_bind (hin.here ?_)
  rw [if_neg (by decide)]
  refine wpAny_pure ?_
  refine wpAny_bind ?_
  refine wpAny_newObj_type (wpAny_pure ⟨_, rfl, h⟩)
theorem get_pop {Q : Value → Shared → Prop} (X : K.In s.heap) (I : PySem.W.InstAt s.heap x ox C od) (hm : mroIn K C (.type "list") = some true)
    (h : Q (.ref s.heap.objs.size) { s with heap := s.heap.push { cls := .type "builtin_function_or_method", data := .fields #[.builtin "list.pop", .ref x] } }) :
    wpAny (model prog w) A (call (.builtin "method_descriptor.__get__") [.builtin "list.pop", .ref x, .ref C]) Q E s := by
  have hin : Looks (model prog w) s.heap (isInstance (.ref x) (.type "list")) true := (I.type).andThen (looks_mroIn X hm)
  refine wpAny_call_entry slot_mget type_lpop entry_mget ?_ (args_mget _ _ _)
  unfold Builtin.«method_descriptor.__get__»
  refine wpAny_bind (wpAny_of_eq (show _ = pure (Value.builtin "list.pop", some (Value.ref x), some (Value.ref C)) by kernel_rfl) ?_)
  dsimp only
  refine wpAny_bind ?_
  refine wpAny_bind (wpAny_of_eq (show _ = pure ((Str.ofString "pop"), Value.type "list") by kernel_rfl) ?_)
  dsimp only
  refine wpAny_bind (hin.here ?_)
  rw [if_neg (by decide)]
  refine wpAny_pure ?_
  refine wpAny_bind ?_
  refine wpAny_newObj_type (wpAny_pure ⟨_, rfl, h⟩)
end
end Mine
set_option maxRecDepth 100000
set_option maxHeartbeats 1000000
namespace Mine
open PySem PySem.W PySem.Calls PyProof.Rows
section
variable {prog : Program} {w : World} {A : Around} {E : Value → Shared → Prop} {h : Heap} {g : Array GenState} {d : Drawn} {t : Nat} {os : OsState} {K : Frag} {x C D so : Addr} {ox : Obj} {odx : Option Obj}
theorem super_ga {name : Str} {l₀ l : List Value} {tk : Tok} {id T gid : String} {Q : Fin → Shared → Prop} {v : Value} {s' : Shared}
    (hso : h.get? so = some { cls := .type "super", dict := none, data := .fields #[.ref D, .ref x, .ref C], slots := #[] }) (hno : Looks (model prog w) h (opaqueClassAbove (.ref C)) none)
    (hC : Looks (model prog w) h (mroOf (.ref C)) l₀) (hl : (l₀.dropWhile (· != .ref D)).drop 1 = l) (X : K.In h)
    (hf : alongIn K name l = some (some (.builtin id))) (hty : typeOf (.builtin id) = pure (.type T)) (hget : typeLookup (.type T) "__get__" = pure (some (.builtin gid))) (hxC : x ≠ C) (hn : (name == ("__class__" : Str)) = false)
    (hcall : ∀ (A : Around) (E : Value → Shared → Prop) (Q₁ : Value → Shared → Prop), Q₁ v s' → wpAny (model prog w) A (call (.builtin gid) [.builtin id, .ref x, .ref C]) Q₁ E ⟨h, g, d, t, os⟩)
    (hq : Q (.done (.ret v)) s') :
    wpAny (model prog w) A (Builtin.«super.__getattribute__» ⟨[.ref so, .str name tk], []⟩) Q E ⟨h, g, d, t, os⟩ := by
  have hne : (Value.ref x == Value.ref C) = false := by simp [hxC]
  have hdt : ({ cls := .type "super", dict := none, data := .fields #[.ref D, .ref x, .ref C], slots := #[] } : Obj).data = .fields #[.ref D, .ref x, .ref C] := rfl
  have f0 : (#[.ref D, .ref x, .ref C] : Array Value)[0]? = some (.ref D) := rfl
  have f1 : (#[.ref D, .ref x, .ref C] : Array Value)[1]? = some (.ref x) := rfl
  have f2 : (#[.ref D, .ref x, .ref C] : Array Value)[2]? = some (.ref C) := rfl
  unfold Builtin.«super.__getattribute__»
  repeat (first
    | (with_reducible refine wpAny_field hso hdt f0 ?_) | (with_reducible refine wpAny_field hso hdt f1 ?_) | (with_reducible refine wpAny_field hso hdt f2 ?_)
    | (with_reducible refine ks_wpAny_notOpaque hno ?_)
    | (with_reducible refine Looks.at hC ?_; rw [hl])
    | (refine ks_forIn_along X (fun _ _ => rfl) rfl ?_ hf)
    | (with_reducible refine wpAny_of_eq hty ?_)
    | (with_reducible refine wpAny_of_eq hget ?_)
    | (with_reducible refine hcall _ _ _ ?_)
    | (with_reducible refine ⟨_, rfl, ?_⟩)
    | (simp only [hn, hne, Bool.or_false, Bool.false_eq_true, if_false])
    | wp_step
    | dsimp only)
  all_goals exact hq
theorem method_super {name : Str} {l₀ l : List Value} {id T gid : String} {pl : Sem Bool} {Q : Value × List Value → Shared → Prop} {v : Value} {s' : Shared}
    (hso : h.get? so = some { cls := .type "super", dict := none, data := .fields #[.ref D, .ref x, .ref C], slots := #[] }) (hno : Looks (model prog w) h (opaqueClassAbove (.ref C)) none)
    (hC : Looks (model prog w) h (mroOf (.ref C)) l₀) (hl : (l₀.dropWhile (· != .ref D)).drop 1 = l) (X : K.In h)
    (hf : alongIn K name l = some (some (.builtin id))) (hty : typeOf (.builtin id) = pure (.type T)) (hget : typeLookup (.type T) "__get__" = pure (some (.builtin gid))) (hxC : x ≠ C) (hn : (name == ("__class__" : Str)) = false)
    (hcall : ∀ (A : Around) (E : Value → Shared → Prop) (Q₁ : Value → Shared → Prop), Q₁ v s' → wpAny (model prog w) A (call (.builtin gid) [.builtin id, .ref x, .ref C]) Q₁ E ⟨h, g, d, t + 1, os⟩)
    (hv : handedOut v = pure v) (hq : Q (v, []) s') :
    wpAny (model prog w) A (getMethod (.ref so) name pl) Q E ⟨h, g, d, t, os⟩ := by
  have hlk := F.ks_slot_super_ga.lookup
  have hv0 := hv
  have hcan := F.ks_canon_super_ga
  have hT : ∀ t', (⟨h, g, d, t', os⟩ : Shared).TypeIs (.ref so) "super" := fun _ => ⟨_, hso, rfl⟩
  unfold getMethod
  refine wpAny_bind (wpAny_specialOf (hT _) hlk ?_)
  show wpAny _ _ (if (Manifest.canonical "super.__getattribute__" != "object.__getattribute__") = true then _ else _) _ _ _
  rw [if_pos hcan]
  unfold getAttr getAttrBy
  refine wpAny_bind (wpAny_bind (wpAny_mkText (wpAny_holding (wpAny_bind (wpAny_typeOf (hT _) (wpAny_bind (wpAny_of_eq hlk ?_)))))))
  show wpAny _ _ (getAttrByItsOwn (.ref so) (.str name t) (.type "super") (.builtin "super.__getattribute__") true false) _ _ _
  unfold getAttrByItsOwn hookBefore callGetattribute boundAndCalled
  refine wpAny_bind (wpAny_of_eq (show (if onTheHeap (.type "super") then typeLookup (.type "super") "__getattr__" else pure none) = pure none from rfl) ?_)
  refine wpAny_bind (wpAny_attempt (wpAny_holding ?_))
  show wpAny _ _ (bindSpecial (.builtin "super.__getattribute__") (.ref so) >>= _) _ _ _
  refine wpAny_bind (wpAny_of_eq (F.ks_slot_super_ga.bind _) ?_)
  refine wpAny_mono (Q := fun v' s'' => v' = v ∧ s'' = s') (E := fun _ _ => False)
    (wpAny_call_entry F.ks_slot_super_ga (hT _) F.ks_entry_super_ga (super_ga hso hno hC hl X hf hty hget hxC hn hcall ⟨_, rfl, rfl, rfl⟩) (F.ks_gaArgs_super _ _)) (fun v s' hv => ?_) fun _ _ z => z.elim
  obtain ⟨rfl, rfl⟩ := hv
  exact wpAny_of_eq hv0 (wpAny_pure hq)
/-- a slot of list bound to the object is called -/
theorem call_wrap {id n : String} {bi : Builtin} {b : Addr} {rest : List Value} {s : Shared} {Q : Value → Shared → Prop} (hb : s.heap.get? b = some { cls := .type "method-wrapper", dict := none, data := .fields #[.builtin id, .ref x], slots := #[] })
    (hsplit : splitId id = some ("list", n)) (hkind : (Manifest.find? "list").bind (·.attrs.lookup n) = some .slot)
    (he : entryFor table id = some bi) (ha : argsOk id ⟨.ref x :: rest, []⟩)
    (hc : wpAny (model prog w) A.in1 (bi ⟨.ref x :: rest, []⟩) (fun fin s' => ∃ v, fin = .done (.ret v) ∧ Q v s') E s) (hplain : plainId id = true := by decide +kernel) :
    wpAny (model prog w) A (call (.ref b) rest) Q E s := by
  have hk : builtinKind id = some .slot := by simp only [builtinKind, hsplit, hkind]
  refine wpAny_call (codeAny_of_tree ?_)
  show wpAny _ A.in1 (callAny (.ref b) ⟨rest, []⟩) _ _ _
  unfold callAny
  refine wpAny_bind (wpAny_load hb ?_)
  dsimp only
  refine wpAny_bind ?_
  unfold checkBoundCall
  have fin : codeAny (model prog w) A (.builtin id ⟨.ref x :: rest, []⟩) (fun r s' => match r with | .ok (.ret v) => Q v s' | .ok _ => False | .error e => E e s') s := by
    refine codeAny_builtin he ?_
    rw [Around.under_plainId hplain]
    exact wpAny_mono hc (fun fin s' h' => by obtain ⟨v, rfl, hv⟩ := h'; exact hv) fun _ _ h' => h'
  cases hsig : Manifest.signature? id with
  | none => exact wpAny_pure (wpAny_pure ⟨plainId_quiet hplain _, fin⟩)
  | some sig =>
    simp only [argsOk, hsig] at ha
    have h2 : Bind.checkArgs id sig ⟨.ref x :: rest, []⟩ = pure () := ha
    dsimp only
    rw [hk]
    show wpAny _ _ (Bind.checkArgs id sig ⟨.ref x :: rest, []⟩) _ _ _
    rw [h2]
    exact wpAny_pure (wpAny_pure ⟨plainId_quiet hplain _, fin⟩)
/-- a method of list bound to the object is called -/
theorem call_bound {id n : String} {bi : Builtin} {b : Addr} {rest : List Value} {s : Shared} {Q : Value → Shared → Prop} {cd : ClassData} {sig : Manifest.Signature} (X : K.In s.heap) (I : PySem.W.InstAt s.heap x ox C odx) (hcd : clsIn K C = some cd) (hmod : mroIn K C (.type "module") = some false) (htC : typeIn K (.ref C) = some (.type "type"))
    (hb : s.heap.get? b = some { cls := .type "builtin_function_or_method", dict := none, data := .fields #[.builtin id, .ref x], slots := #[] })
    (hsplit : splitId id = some ("list", n)) (hkind : (Manifest.find? "list").bind (·.attrs.lookup n) = some .method) (hvar : Manifest.varargsMethods.contains id = false)
    (he : entryFor table id = some bi) (hsig : Manifest.signature? id = some sig) (ha : Bind.checkArgs id { sig with full := s!"{cd.qualname.toString}.{Bind.lastOf id}" } ⟨.ref x :: rest, []⟩ = pure ())
    (hc : wpAny (model prog w) A.in1 (bi ⟨.ref x :: rest, []⟩) (fun fin s' => ∃ v, fin = .done (.ret v) ∧ Q v s') E s) (hplain : plainId id = true := by decide +kernel) :
    wpAny (model prog w) A (call (.ref b) rest) Q E s := by
  have hk : builtinKind id = some .method := by simp only [builtinKind, hsplit, hkind]
  refine wpAny_call (codeAny_of_tree ?_)
  show wpAny _ A.in1 (callAny (.ref b) ⟨rest, []⟩) _ _ _
  unfold callAny
  refine wpAny_bind (wpAny_load hb ?_)
  dsimp only
  refine wpAny_bind ?_
  have fin : codeAny (model prog w) A (.builtin id ⟨.ref x :: rest, []⟩) (fun r s' => match r with | .ok (.ret v) => Q v s' | .ok _ => False | .error e => E e s') s := by
    refine codeAny_builtin he ?_
    rw [Around.under_plainId hplain]
    exact wpAny_mono hc (fun fin s' h' => by obtain ⟨v, rfl, hv⟩ := h'; exact hv) fun _ _ h' => h'
  have hin : Looks (model prog w) s.heap (isInstance (.ref x) (.type "module")) false := (I.type).andThen (looks_mroIn X hmod)
  unfold checkBoundCall
  rw [hsig]
  dsimp only
  rw [hk]
  dsimp only
  rw [if_neg (by decide)]
  refine wpAny_bind (hin.here ?_)
  rw [hvar]
  rw [if_neg (by decide)]
  obtain ⟨hh, gg, dd, tt, oo⟩ := s
  refine wpAny_bind (ks_wpAny_isType_inst I.at_ (fun c e => ?_) ?_)
  · have := I.no
    unfold notCls at this
    rw [e] at this
    exact Bool.noConfusion this
  rw [if_neg (by decide)]
  refine wpAny_bind ((I.type).here ?_)
  dsimp only
  refine wpAny_bind ((looks_clsIn X hcd).here ?_)
  refine wpAny_bind ((looks_typeIn X htC).here ?_)
  rw [if_pos (by decide)]
  refine wpAny_of_eq ha ?_
  exact wpAny_pure ⟨plainId_quiet hplain _, fin⟩
end
end Mine
set_option maxRecDepth 100000
set_option maxHeartbeats 1000000
namespace Mine
open PySem PySem.W PySem.Calls PyProof.Rows
theorem filledCls5 (P : Params) : PySem.Challenge.rw_wr0051_01 = PySem.Challenge.rw_wr0051_01 ∧ KK P = KK P := by k_fill; exact ⟨rfl, rfl⟩
theorem super_len {w : World} {A : Around} {E : Value → Shared → Prop} {B : Heap} {L : Addr} {m : Str → Option Value} {news : List (Addr × Obj)} {h : Heap} {g : Array GenState} {d : Drawn} {t : Nat} {os : OsState} {x so : Addr} {ox od : Obj} {pl : Sem Bool} {Q : Value × List Value → Shared → Prop}
    (X : (KK w.params).In B) (F : Fr B L h m) (N : News B L h news) (hso : (so, ks_superObj 172 x 172) ∈ news) (I : PySem.W.InstAt h x ox 172 (some od))
    (hq : ∀ q h', Fr B L h' m → News B L h' ((q, ⟨.type "method-wrapper", none, .fields #[.builtin "list.__len__", .ref x], #[]⟩) :: news) → (∀ p ∈ news, p.1 < q) → (∀ b o, h.get? b = some o → h'.get? b = some o) → Q (.ref q, []) ⟨h', g, d, t + 1, os⟩) :
    wpAny (M₁ w) A (getMethod (.ref so) (Str.ofString "__len__") pl) Q E ⟨h, g, d, t, os⟩ := by
  have X' := X.keeps F.keep
  obtain ⟨cd, hcd, hmro⟩ : ∃ cd, clsIn (KK w.params) 172 = some cd ∧ cd.mro = [.ref 172, .type "list", .type "object"] := ⟨_, rfl, rfl⟩
  obtain ⟨F', N', l'⟩ := ks_newsPush (s := ⟨h, g, d, t, os⟩) (o := ⟨.type "method-wrapper", none, .fields #[.builtin "list.__len__", .ref x], #[]⟩) F N rfl (Heap.get?_push_at rfl rfl) (fun b o e => Heap.get?_push_of_some _ e)
  refine method_super (N _ hso).1 (looks_opaque X' (by kernel_rfl)) (l₀ := cd.mro) (fun A Q E s k q => wpAny_bind ((looks_clsIn X' hcd) A _ E s k (wpAny_pure q))) (l := [.type "list", .type "object"]) (by rw [hmro]; rfl) X' (by kernel_rfl) type_llen slot_wget.lookup (ks_ne X' I hcd) (by decide) ?_ (by rfl) (hq _ _ F' N' l' (fun b o e => Heap.get?_push_of_some _ e))
  intro A E Q₁ h1
  exact get_len X' I (by kernel_rfl) h1
theorem super_init {w : World} {A : Around} {E : Value → Shared → Prop} {B : Heap} {L : Addr} {m : Str → Option Value} {news : List (Addr × Obj)} {h : Heap} {g : Array GenState} {d : Drawn} {t : Nat} {os : OsState} {x so : Addr} {ox od : Obj} {pl : Sem Bool} {Q : Value × List Value → Shared → Prop}
    (X : (KK w.params).In B) (F : Fr B L h m) (N : News B L h news) (hso : (so, ks_superObj 172 x 172) ∈ news) (I : PySem.W.InstAt h x ox 172 (some od))
    (hq : ∀ q h', Fr B L h' m → News B L h' ((q, ⟨.type "method-wrapper", none, .fields #[.builtin "list.__init__", .ref x], #[]⟩) :: news) → (∀ p ∈ news, p.1 < q) → (∀ b o, h.get? b = some o → h'.get? b = some o) → Q (.ref q, []) ⟨h', g, d, t + 1, os⟩) :
    wpAny (M₁ w) A (getMethod (.ref so) (Str.ofString "__init__") pl) Q E ⟨h, g, d, t, os⟩ := by
  have X' := X.keeps F.keep
  obtain ⟨cd, hcd, hmro⟩ : ∃ cd, clsIn (KK w.params) 172 = some cd ∧ cd.mro = [.ref 172, .type "list", .type "object"] := ⟨_, rfl, rfl⟩
  obtain ⟨F', N', l'⟩ := ks_newsPush (s := ⟨h, g, d, t, os⟩) (o := ⟨.type "method-wrapper", none, .fields #[.builtin "list.__init__", .ref x], #[]⟩) F N rfl (Heap.get?_push_at rfl rfl) (fun b o e => Heap.get?_push_of_some _ e)
  refine method_super (N _ hso).1 (looks_opaque X' (by kernel_rfl)) (l₀ := cd.mro) (fun A Q E s k q => wpAny_bind ((looks_clsIn X' hcd) A _ E s k (wpAny_pure q))) (l := [.type "list", .type "object"]) (by rw [hmro]; rfl) X' (by kernel_rfl) type_linit slot_wget.lookup (ks_ne X' I hcd) (by decide) ?_ (by rfl) (hq _ _ F' N' l' (fun b o e => Heap.get?_push_of_some _ e))
  intro A E Q₁ h1
  exact get_init X' I (by kernel_rfl) h1
theorem super_pop {w : World} {A : Around} {E : Value → Shared → Prop} {B : Heap} {L : Addr} {m : Str → Option Value} {news : List (Addr × Obj)} {h : Heap} {g : Array GenState} {d : Drawn} {t : Nat} {os : OsState} {x so : Addr} {ox od : Obj} {pl : Sem Bool} {Q : Value × List Value → Shared → Prop}
    (X : (KK w.params).In B) (F : Fr B L h m) (N : News B L h news) (hso : (so, ks_superObj 172 x 172) ∈ news) (I : PySem.W.InstAt h x ox 172 (some od))
    (hq : ∀ q h', Fr B L h' m → News B L h' ((q, ⟨.type "builtin_function_or_method", none, .fields #[.builtin "list.pop", .ref x], #[]⟩) :: news) → (∀ p ∈ news, p.1 < q) → (∀ b o, h.get? b = some o → h'.get? b = some o) → Q (.ref q, []) ⟨h', g, d, t + 1, os⟩) :
    wpAny (M₁ w) A (getMethod (.ref so) (Str.ofString "pop") pl) Q E ⟨h, g, d, t, os⟩ := by
  have X' := X.keeps F.keep
  obtain ⟨cd, hcd, hmro⟩ : ∃ cd, clsIn (KK w.params) 172 = some cd ∧ cd.mro = [.ref 172, .type "list", .type "object"] := ⟨_, rfl, rfl⟩
  obtain ⟨F', N', l'⟩ := ks_newsPush (s := ⟨h, g, d, t, os⟩) (o := ⟨.type "builtin_function_or_method", none, .fields #[.builtin "list.pop", .ref x], #[]⟩) F N rfl (Heap.get?_push_at rfl rfl) (fun b o e => Heap.get?_push_of_some _ e)
  refine method_super (N _ hso).1 (looks_opaque X' (by kernel_rfl)) (l₀ := cd.mro) (fun A Q E s k q => wpAny_bind ((looks_clsIn X' hcd) A _ E s k (wpAny_pure q))) (l := [.type "list", .type "object"]) (by rw [hmro]; rfl) X' (by kernel_rfl) type_lpop slot_mget.lookup (ks_ne X' I hcd) (by decide) ?_ (by rfl) (hq _ _ F' N' l' (fun b o e => Heap.get?_push_of_some _ e))
  intro A E Q₁ h1
  exact get_pop X' I (by kernel_rfl) h1
theorem callWith_bound0 {M : Model} {A : Around} {E : Value → Shared → Prop} {s : Shared} {env : Env} {pos : Pos} {T : String} {q : Addr} {vs : Array Value} {Q : Value → Shared → Prop} (hq : s.heap.get? q = some ⟨.type T, none, .fields vs, #[]⟩) (hT : ((Value.type T) != .type "method") = true) (hT2 : ((Value.type T) == .type "builtin_function_or_method" || (Value.type T) == .type "method-wrapper") = true)
    (h : wpAny M A (call (.ref q) []) Q E s) : wpAny M A (callWith pos (.ref q) [] (backTo pos (starEach [] env)) []) Q E s := by
  have h₀ : wpAny M A (evalArgs (.ref q) true (backTo pos (starEach [] env)) []) (fun a s₁ => a = ⟨[], []⟩ ∧ s₁ = s) E s := evalArgs_nil3 ⟨rfl, rfl⟩
  unfold callWith
  refine wpAny_bind (wpAny_holding (wpAny_mono h₀ (fun a s₁ h₁ => wpAny_bind (wpAny_standAt ?_)) fun _ _ x => x))
  obtain ⟨rfl, rfl⟩ := h₁
  refine wpAny_bind ?_
  refine wpAny_bind ?_
  refine wpAny_load hq ?_
  dsimp only
  rw [hT, hT2]
  refine wpAny_pure ?_
  show wpAny M A (call (.ref q) ([] ++ []) [] >>= fun r => holding [r] point >>= fun _ => pure r) Q E _
  exact wpAny_bind (wpAny_mono h (fun r s₂ hr => wpAny_bind (wpAny_holding (wpAny_point (wpAny_pure hr)))) fun _ _ x => x)
theorem pile_len {w : World} {A : Around} {E : Value → Shared → Prop} {s : Shared} {x dx q : Addr} {items : Array Value} {c : Nat} {Q : Value → Shared → Prop} (hx : s.heap.get? x = some (pileO dx items c)) (hb : s.heap.get? q = some ⟨.type "method-wrapper", none, .fields #[.builtin "list.__len__", .ref x], #[]⟩)
    (h : Q (.int items.size s.toks) { s with toks := s.toks + 1 }) : wpAny (M₁ w) A (call (.ref q) []) Q E s := by
  refine call_wrap (n := "__len__") hb (by decide +kernel) (by decide +kernel) entry_list_len (args_list_len _) ?_
  obtain ⟨hp, g, d, tk, os⟩ := s
  unfold pileO at hx
  dsimp only at *
  unfold Builtin.«list.__len__»
  wp_walk
  exact ⟨_, rfl, h⟩
theorem spec_count {w : World} {mean : ExcName → Option Value} {mg mb : Str → Option Value} {B : Heap} (T : Top₁ mean mg mb B) (X : (KK w.params).In B)
    {A : Around} {L : Addr} {h : Heap} {g : Array GenState} {d : Drawn} {tk : Nat} {os : OsState} {news : List (Addr × Obj)} {m : Str → Option Value} {x dx : Addr} {items : Array Value} {c : Nat} {od : Obj} {Q E : Value → Shared → Prop}
    (F : Fr B L h m) (N : News B L h news) (h1 : (x, pileO dx items c) ∈ news) (h2 : (dx, od) ∈ news) (hd : A.depth < recursionLimit) (hh : A.handled = none)
    (hQ : ∀ h' tk' t, Fr B L h' m → News B L h' news → Q (.int items.size t) ⟨h', g, d, tk', os⟩) :
    wpAny (M₁ w) A (call (.ref 169) [.ref x]) Q E ⟨h, g, d, tk, os⟩ := by
  obtain ⟨ah, ad, af, ag, au⟩ := A
  obtain rfl : ah = none := hh
  refine spec_at (binds := [(u "self", Value.ref x)]) (fun v news' => (∃ t, v = .int items.size t) ∧ news' = news) F N X T (by rfl) (by rfl) hd (.of_eq (by rfl)) (locs (by rfl)) ?_ ?_ (by rfl) (by rfl) (by rfl) (by decide)
  · intro L' h₁ fo Q' hlt F' N' hR
    have I : PySem.W.InstAt h₁ x (pileO dx items c) 172 (some od) := inst_pile N' (.tail _ h1) (.tail _ h2)
    repeat' (first | (k_unfold; (try dsimp only)) | (walk1; (try dsimp only)) | (dsimp only; walk1))
    refine ks_node (K := KK w.params) F' X N' T (by rfl) (by rfl) (by rfl) I (by rfl) (by rfl) (by first | rfl | decide +kernel) (by rfl) (by rfl) (by kernel_rfl) (by kernel_rfl) (by decide) (by rfl) (by rfl) (by rfl) (by rfl) (by decide +kernel) (by first | boot_by_name | rfl | kernel_rfl) ?_
    intro so h₂ F₂ N₂ l2
    dsimp only at *
    refine super_len X F₂ N₂ (.head _) (inst_pile N₂ (.tail _ (.tail _ h1)) (.tail _ (.tail _ h2))) ?_
    intro q h₃ F₃ N₃ l3 hk3
    dsimp only
    refine callWith_bound0 (N₃ _ (.head _)).1 rfl rfl ?_
    refine pile_len (N₃ _ (.tail _ (.tail _ (.tail _ h1)))).1 (N₃ _ (.head _)).1 ?_
    refine hR (.ret _) _ _ _ _ ⟨⟨_, rfl⟩, rfl⟩ F₃ (fun p hp => N₃ _ (.tail _ (.tail _ hp))) (fun p hp => ?_)
    exact (N p hp).2.1
  · rintro v h' tk' news' ⟨⟨t, rfl⟩, rfl⟩ F' N'
    exact hQ h' tk' t F' N'
/-- a def of the class is found on the object -/
theorem pile_method {w : World} {A : Around} {E : Value → Shared → Prop} {s : Shared} {B : Heap} {L f : Addr} {m : Str → Option Value} {news : List (Addr × Obj)} {x dx : Addr} {items : Array Value} {c : Nat} {od : Obj} {name : Str} {pl : Sem Bool} {Q : Value × List Value → Shared → Prop}
    (X : (KK w.params).In B) (F : Fr B L s.heap m) (N : News B L s.heap news) (h1 : (x, pileO dx items c) ∈ news) (h2 : (dx, od) ∈ news) (hf : findIn (KK w.params) (.ref 172) name = some (some (.ref f))) (ht : typeIn (KK w.params) (.ref f) = some (.type "function")) (hn : lookIn name od = some none)
    (h : Q (.ref f, [.ref x]) s) : wpAny (M₁ w) A (getMethod (.ref x) name pl) Q E s :=
  method_any (t := .type "function") (X.keeps F.keep) (inst_pile N h1 h2) (gid := "list.__getattribute__") (by kernel_rfl) (by decide +kernel) (by kernel_rfl) hf ht (by decide +kernel) (by show (lookIn name od).map _ = _; rw [hn]; rfl) h
end Mine
set_option maxRecDepth 100000
set_option maxHeartbeats 1000000
namespace Mine
open PySem PySem.W PySem.Calls PyProof.Rows
theorem sig_pop : ∃ sig, Manifest.signature? "list.pop" = some sig ∧ ∀ (cd : ClassData) (a : Value), cd.qualname = u "_Accumulator" → Bind.checkArgs "list.pop" { sig with full := s!"{cd.qualname.toString}.{Bind.lastOf "list.pop"}" } ⟨[a], []⟩ = pure () := by
  rw [signature?_of (id := "list.pop") (n := ['p', 'o', 'p']) (o := ['t', 's', 'i', 'l']) (by kernel_rfl) PySem.F.owner_list]
  exact ⟨_, rfl, fun cd a e => by rw [e]; kernel_rfl⟩
theorem filledCls6 (P : Params) : PySem.Challenge.rw_wr0051_01 = PySem.Challenge.rw_wr0051_01 ∧ KK P = KK P := by k_fill; exact ⟨rfl, rfl⟩
theorem erase_last (its : Array Value) (v : Value) : (its.push v).eraseIdxIfInBounds its.size = its := by
  apply Array.toList_inj.mp
  rw [Array.toList_eraseIdxIfInBounds, Array.toList_push, List.eraseIdx_append_of_length_le (by simp)]
  simp
/-- the bound pop is called: the uppermost goes -/
theorem pile_pop {w : World} {A : Around} {E : Value → Shared → Prop} {s : Shared} {B : Heap} {L : Addr} {m : Str → Option Value} {news news' : List (Addr × Obj)} {x dx q : Addr} {its : Array Value} {v : Value} {c : Nat} {od : Obj} {Q : Value → Shared → Prop}
    (X : (KK w.params).In B) (F : Fr B L s.heap m) (N : News B L s.heap news) (h1 : (x, pileO dx (its.push v) c) ∈ news) (h2 : (dx, od) ∈ news) (hb : s.heap.get? q = some ⟨.type "builtin_function_or_method", none, .fields #[.builtin "list.pop", .ref x], #[]⟩)
    (U : Upd x (pileO dx (its.push v) c) (pileO dx its (c + 1)) news news')
    (h : ∀ h' tk', Fr B L h' m → News B L h' news' → Q v { s with heap := h', toks := tk' }) (hsz : its.size ≤ 1000) : wpAny (M₁ w) A (call (.ref q) []) Q E s := by
  obtain ⟨sig, hsig, hargs⟩ := sig_pop
  obtain ⟨cd, hcd, hqn⟩ : ∃ cd, clsIn (KK w.params) 172 = some cd ∧ cd.qualname = u "_Accumulator" := ⟨_, rfl, rfl⟩
  refine call_bound (n := "pop") (X.keeps F.keep) (inst_pile N h1 h2) hcd (by kernel_rfl) (by kernel_rfl) hb (by decide +kernel) (by decide +kernel) (by decide +kernel) PySem.F.entry_list_pop hsig (hargs cd _ hqn) ?_
  obtain ⟨pre, post, rfl, rfl, a, b⟩ := U.split
  have z := N (x, pileO dx (its.push v) c) (List.mem_append.mpr (.inr (.head _)))
  obtain ⟨hp, g, d, tk, os⟩ := s
  have hx := z.1
  dsimp only at *
  unfold Builtin.«list.pop»
  wp_walk
  have e1 : seqIndex? (-1) (its.push v).size = some its.size := by
    unfold seqIndex?
    rw [Array.size_push]
    simp
    omega
  have e2 : (its.push v)[its.size]? = some v := by simp
  rw [e1]
  dsimp only [Option.bind]
  rw [e2]
  dsimp only [Option.map]
  have e3 : Obj.mapSeq (fun y => y.eraseIdxIfInBounds its.size) (pileO dx (its.push v) c) = pileO dx its (c + 1) := by
    have := mapSeq_pile (dx := dx) (items := its.push v) (c := c) (f := fun y => y.eraseIdxIfInBounds its.size) (by rw [erase_last, Array.size_push]; omega)
    rw [erase_last] at this
    exact this
  show wpAny _ _ (updateSeq x (fun y => y.eraseIdxIfInBounds its.size) >>= fun _ => ret v) _ _ _
  refine wpAny_bind ?_
  have hz : ((its.push v).eraseIdxIfInBounds its.size).size ≤ sizeLine + 1 := by
    rw [erase_last]
    have z1000 : 1000 ≤ sizeLine := by decide
    omega
  refine wpAny_updateSeq hx rfl (wpAny_pure ⟨v, rfl, ?_⟩) (_hz' := hz)
  refine h _ _ (F.change (Heap.SameBut.update ..) z.2.1 z.2.2) (news_set N a b (Heap.SameBut.update ..) ?_)
  rw [Heap.get?_update_self _ hx (by rw [e3]; rfl), e3]
theorem at_cut {M : Model} {A : Around} {c : Code} {a : Stmt} {rest : List Stmt} {env : Env} {Q : Flow → Shared → Prop} {E : Value → Shared → Prop} {s : Shared} {R : Shared → Prop}
    (h1 : ∀ Q' : Flow → Shared → Prop, (∀ s', R s' → Q' .next s') → (∀ v s', Q (.ret v) s' → Q' (.ret v) s') → wpAny M A (exec a env) Q' E s) (h2 : ∀ s', R s' → _root_.PySem.wpAt M A c (execs rest env) Q E s') : _root_.PySem.wpAt M A c (execs (a :: rest) env) Q E s :=
  ks_wpAt_execs_cons (at_of_any (h1 _ (fun s' h => h2 s' h) fun v s' h => h))
theorem spec_pop {w : World} {mean : ExcName → Option Value} {mg mb : Str → Option Value} {B : Heap} (T : Top₁ mean mg mb B) (X : (KK w.params).In B)
    {A : Around} {L : Addr} {h : Heap} {g : Array GenState} {d : Drawn} {tk : Nat} {os : OsState} {news news' : List (Addr × Obj)} {m : Str → Option Value} {x dx : Addr} {its : Array Value} {v : Value} {c : Nat} {od : Obj} {first : Value} {Q E : Value → Shared → Prop}
    (F : Fr B L h m) (N : News B L h news) (h1 : (x, pileO dx (its.push v) c) ∈ news) (h2 : (dx, od) ∈ news) (U : Upd x (pileO dx (its.push v) c) (pileO dx its (c + 1)) news news') (O : Own od first) (hd : A.depth + 1 < recursionLimit) (hh : A.handled = none)
    (hsz : its.size ≤ 500) (hne : ∀ p ∈ news', p.1 ≠ L)
    (hQ : ∀ h' tk', Fr B L h' m → News B L h' news' → Q v ⟨h', g, d, tk', os⟩) :
    wpAny (M₁ w) A (call (.ref 132) [.ref x]) Q E ⟨h, g, d, tk, os⟩ := by
  obtain ⟨ah, ad, af, ag, au⟩ := A
  obtain rfl : ah = none := hh
  refine spec_at (binds := [(u "self", Value.ref x)]) (fun v' n' => v' = v ∧ n' = news') F N X T (by rfl) (by rfl) (by dsimp only at *; omega) (.of_eq (by rfl)) (locs (by rfl)) ?_ ?_ (by rfl) (by rfl) (by rfl) (by decide)
  · intro L' h₁ fo Q' hlt F' N' hR
    have hszp : (its.push v).size = its.size + 1 := Array.size_push ..
    refine at_cut (R := fun s' => ∃ h' tk', s' = ⟨h', g, d, tk', os⟩ ∧ Fr B L' h' (fun y => List.lookup y [(u "self", Value.ref x)].reverse) ∧ News B L' h' ((L, fo) :: news)) ?_ ?_
    · intro Q'' hQ _
      repeat' (first | (k_unfold; (try dsimp only)) | ((with_reducible show wpAny _ _ (getMethod (Value.ref x) (Str.ofString "part_count") _) _ _ _); refine pile_method (f := 169) X F' N' (.tail _ h1) (.tail _ h2) (by kernel_rfl) (by kernel_rfl) O.count ?_) | ((with_reducible show wpAny _ _ (call (Value.ref 169) _) _ _ _); refine spec_count T X F' N' (.tail _ h1) (.tail _ h2) (by show ad + 1 < _; exact hd) rfl ?_; intro h₂ tk₂ t₂ F₂ N₂) | (walk1; (try dsimp only)) | (dsimp only; walk1))
      · rename_i hz _ _ _ _ _
        exact absurd hz (by rw [hszp]; omega)
      · exact hQ _ ⟨_, _, rfl, F₂, N₂⟩
    rintro s' ⟨h₂, tk₂, rfl, F₂, N₂⟩
    have I : PySem.W.InstAt h₂ x (pileO dx (its.push v) c) 172 (some od) := inst_pile N₂ (.tail _ h1) (.tail _ h2)
    repeat' (first | (k_unfold; (try dsimp only)) | (walk1; (try dsimp only)) | (dsimp only; walk1))
    refine ks_node (K := KK w.params) F₂ X N₂ T (by rfl) (by rfl) (by rfl) I (by rfl) (by rfl) (by first | rfl | decide +kernel) (by rfl) (by rfl) (by kernel_rfl) (by kernel_rfl) (by decide) (by rfl) (by rfl) (by rfl) (by rfl) (by decide +kernel) (by first | boot_by_name | rfl | kernel_rfl) ?_
    intro so h₃ F₃ N₃ l3
    dsimp only at *
    refine super_pop X F₃ N₃ (.head _) (inst_pile N₃ (.tail _ (.tail _ h1)) (.tail _ (.tail _ h2))) ?_
    intro q h₄ F₄ N₄ l4 hk4
    dsimp only
    refine callWith_bound0 (N₄ _ (.head _)).1 rfl rfl ?_
    have hxL : x ≠ L := (N _ h1).2.1
    refine pile_pop X F₄ N₄ (.tail _ (.tail _ (.tail _ h1))) (.tail _ (.tail _ (.tail _ h2))) (N₄ _ (.head _)).1 (.tail (Nat.ne_of_gt (l4 _ (.tail _ (.tail _ h1)))) (.tail (Nat.ne_of_gt (l3 _ (.tail _ h1))) (.tail (Ne.symm hxL) U))) ?_ (by omega)
    intro h₅ tk₅ F₅ N₅
    exact hR (.ret _) _ _ _ _ ⟨rfl, rfl⟩ F₅ (fun p hp => N₅ _ (.tail _ (.tail _ hp))) hne
  · rintro v' h' tk' n' ⟨rfl, rfl⟩ F' N'
    exact hQ h' tk' F' N'
end Mine
set_option maxRecDepth 100000
set_option maxHeartbeats 4000000
namespace Mine
open PySem PySem.W PySem.Calls PyProof.Rows
structure MakesL (M : Model) (h : Heap) (C : Addr) : Prop where
  obj : ∃ oc od cd sl, h.get? C = some ⟨oc, od, .cls cd, sl⟩ ∧ cd.abstract = false ∧ cd.hasDel = false ∧ cd.mro.isEmpty = false ∧ cd.mro = [.ref C, .type "list", .type "object"]
  made : Looks M h (Bind.madeBy (.ref C)) (some "list.__new__")
  base : Looks M h (Bind.staticBase (.ref C)) (.ref C)
  self : Looks M h (isSubtype (.ref C) (.ref C)) true
  top : Looks M h (isSubtype (.ref C) (.type "list")) true
  call : Looks M h (specialOf (.ref C) "__call__") (some (.builtin "type.__call__"))
  typ : Looks M h (isInstance (.ref C) (.type "type")) true
theorem makesL {P : Params} {M : Model} {h : Heap} (X : (KK P).In h) : MakesL M h 172 := by
  have ho : (KK P).lookup 172 = some (o172 P) := rfl
  obtain ⟨cd, hc, h1, h2, h3, h4⟩ : ∃ cd, clsIn (KK P) 172 = some cd ∧ cd.abstract = false ∧ cd.hasDel = false ∧ cd.mro.isEmpty = false ∧ cd.mro = [.ref 172, .type "list", .type "object"] := ⟨_, rfl, rfl, rfl, rfl, rfl⟩
  have hm : Looks M h (mroOf (.ref 172)) cd.mro := (looks_clsIn X hc).andThen .now
  have made : Looks M h (Bind.madeBy (.ref 172)) (some "list.__new__") := by
    intro A Q E s k q
    unfold Bind.madeBy
    refine wpAny_bind (hm A _ E s k ?_)
    rw [h4, List.forIn_cons]
    refine wpAny_bind (wpAny_bind (wpAny_bind (wpAny_bind (wpAny_loadPart (k _ _ (X _ _ ho)) (wpAny_pure ?_)))))
    exact wpAny_pure (wpAny_pure (wpAny_pure q))
  refine ⟨⟨_, _, _, _, X _ _ ho, rfl, rfl, rfl, rfl⟩, made, ?_, looks_mroIn X (by kernel_rfl), looks_mroIn X (by kernel_rfl), looks_specialIn X (by kernel_rfl), looks_instIn X (by kernel_rfl)⟩
  intro A Q E s k q
  unfold Bind.staticBase
  refine wpAny_bind (hm A _ E s k ?_)
  rw [h4, List.forIn_cons]
  exact wpAny_bind (wpAny_bind (wpAny_bind (made A _ E s k (wpAny_pure (wpAny_pure (wpAny_pure q))))))
theorem kind_lnew : builtinKind "list.__new__" = some .builtinFn := by decide +kernel
theorem split_lnew : splitId "list.__new__" = some ("list", "__new__") := by decide +kernel
theorem args_lnew (a b : Value) : argsOk "list.__new__" ⟨[a, b], []⟩ := by
  unfold argsOk; rw [signature?_of (id := "list.__new__") (n := ['_', '_', 'w', 'e', 'n', '_', '_']) (o := ['t', 's', 'i', 'l']) (by kernel_rfl) PySem.F.owner_list]; kernel_rfl
theorem new_L {prog : Program} {w : World} {A : Around} {R : Result → Shared → Prop} {h : Heap} {g : Array GenState} {d : Drawn} {t : Nat} {os : OsState} {C : Addr} {v : Value} (Y : MakesL (model prog w) h C)
    (hq : R (.ok (.ret (.ref (h.objs.size + 1)))) ⟨(h.push emptyDict).push ⟨.ref C, some h.objs.size, .seq #[] 0, #[]⟩, g, d, t, os⟩) :
    codeAny (model prog w) A (.call (.builtin "list.__new__") ⟨[.ref C, v], []⟩) R ⟨h, g, d, t, os⟩ := by
  obtain ⟨⟨oc, od, cd, sl, hC, e1, e2, e4, e5⟩, made, base, self, top, call, typ⟩ := Y
  refine codeAny_of_tree ?_
  show wpAny _ A.in1 (do checkBuiltinCall "list.__new__" ⟨[.ref C, v], []⟩; again (.builtin "list.__new__" ⟨[.ref C, v], []⟩)) _ _ _
  refine wpAny_bind ?_
  simp only [checkBuiltinCall, kind_lnew, split_lnew]
  have isT : Looks (model prog w) h (isType (.ref C)) true := fun A Q E s k q => by
    obtain ⟨h', g', d', t', os'⟩ := s
    exact ks_wpAny_isType_cls (k _ _ hC) rfl q
  have ha := args_lnew (.ref C) v
  rw [if_pos (show ("__new__" == "__new__") = true by decide)]
  refine wpAny_bind (isT.at ?_)
  rw [if_neg (by decide)]
  refine wpAny_bind (top.at ?_)
  rw [if_neg (by decide)]
  refine wpAny_bind (base.at ?_)
  refine wpAny_bind (made.at ?_)
  dsimp only
  rw [if_neg (by decide +kernel)]
  have fin : codeAny (model prog w) A (.builtin "list.__new__" ⟨[.ref C, v], []⟩) R ⟨h, g, d, t, os⟩ := by
    refine codeAny_builtin_stack PySem.F.entry_list_new rfl fun p st => ?_
    rw [Around.under_plainId PySem.F.plain_list_new _]
    have hown := PySem.owner_list_new
    dsimp only
    rw [hown]
    refine wpAny_bind (isT.at ?_)
    rw [if_neg (by decide)]
    refine wpAny_bind (top.at ?_)
    rw [if_neg (by decide)]
    refine wpAny_bind (wpAny_pure ?_)
    rw [if_neg (show ¬ (!typeHasDict (.ref C)) = true from Bool.false_ne_true)]
    refine wpAny_bind (wpAny_newObj_type (T := "dict") (dict := none) (data := .dict #[]) ?_)
    dsimp only
    refine wpAny_bind ?_
    show wpAny _ _ (newObjAsIs _ _ _) _ _ _
    unfold newObjAsIs classHasDel
    refine wpAny_bind (wpAny_alloc (wpAny_bind (wpAny_bind (wpAny_load (Heap.get?_push_of_some _ (Heap.get?_push_of_some _ hC)) (wpAny_pure ?_)))))
    rw [e2]
    refine wpAny_pure (wpAny_pure ?_)
    show R _ _
    rw [Heap.size_push]
    exact hq
  cases hsig : Manifest.signature? "list.__new__" with
  | none => exact wpAny_pure (wpAny_pure ⟨plainId_quiet PySem.F.plain_list_new _, fin⟩)
  | some sig =>
    simp only [argsOk, hsig] at ha
    have h2 : Bind.checkArgs "list.__new__" sig ⟨[.ref C, v], []⟩ = pure () := ha
    dsimp only
    rw [h2]
    exact wpAny_pure (wpAny_pure ⟨plainId_quiet PySem.F.plain_list_new _, fin⟩)
open Builtin in
theorem make_L {prog : Program} {w : World} {A : Around} {R : Result → Shared → Prop} {h : Heap} {g : Array GenState} {d : Drawn} {t : Nat} {os : OsState} {C : Addr} {v init : Value} (Y : MakesL (model prog w) h C)
    (hi : Looks (model prog w) h (typeLookup (.ref C) "__init__") (some init)) (hb : ∀ self, Looks (model prog w) h (bindSpecial init self) (init, [self]))
    (hq : codeAny (model prog w) (A.under (.builtin "type.__call__" ⟨[.ref C, v], []⟩)) (.call init ⟨[.ref (h.objs.size + 1), v], []⟩) (InitBack (h.objs.size + 1) R) ⟨(h.push emptyDict).push ⟨.ref C, some h.objs.size, .seq #[] 0, #[]⟩, g, d, t, os⟩) :
    codeAny (model prog w) A (.call (.ref C) ⟨[v], []⟩) R ⟨h, g, d, t, os⟩ := by
  have Y' := Y
  obtain ⟨⟨oc, od, cd, sl, hC, e1, e2, e4, e5⟩, made, base, self, top, call, typ⟩ := Y
  refine codeAny_of_tree ?_
  show wpAny _ _ (callAny (.ref C) _) _ _ _
  refine nd_load hC ?_
  show wpAny _ _ (callAny.viaDunder (.ref C) _) _ _ _
  unfold callAny.viaDunder
  refine wpAny_bind (call.at ?_)
  dsimp only
  rw [tc_bind]
  refine wpAny_bind (wpAny_pure (wpAny_bind (wpAny_pure ?_)))
  refine wpAny_pure (a := Fin.again (.call (.builtin "type.__call__") ⟨[.ref C, v], []⟩)) (And.intro rfl ?_)
  refine codeAny_call_builtin_at (Code.quiet_builtin _ (by decide +kernel)) entry_typeCall (check_slot tc_kind tc_split typ (tc_args _ _ _) ?_)
  unfold Builtin.«type.__call__»
  have hm : Looks (model prog w) h (mroOf (.ref C)) cd.mro := ((Looks.ld (part := none) hC).andThen .now).andThen .now
  repeat (first | simp only [e4, Bool.false_eq_true, if_false] | with_reducible refine wpAny_call ?_ | lk)
  refine new_L Y' ?_
  have k : ∀ b o, h.get? b = some o → ((h.push emptyDict).push ⟨.ref C, some h.objs.size, .seq #[] 0, #[]⟩).get? b = some o := fun b o e => Heap.get?_push_of_some _ (Heap.get?_push_of_some _ e)
  have hx : ((h.push emptyDict).push ⟨.ref C, some h.objs.size, .seq #[] 0, #[]⟩).get? (h.objs.size + 1) = some ⟨.ref C, some h.objs.size, .seq #[] 0, #[]⟩ := by heap_get
  have t1 : Looks (model prog w) ((h.push emptyDict).push ⟨.ref C, some h.objs.size, .seq #[] 0, #[]⟩) (typeOf (.ref (h.objs.size + 1))) (.ref C) := (Looks.ld hx).andThen .now
  have s1 := self.keeps k
  have i1 := hi.keeps k
  have b1 := (hb (.ref (h.objs.size + 1))).keeps k
  unfold isInstance callSpecial? specialOf
  repeat (first | with_reducible refine wpAny_call ?_ | lk)
  refine codeAny_mono hq fun r s' z => ?_
  rcases r with e | (v | _ | _ | _) <;> first | exact z | exact z.elim | skip
  obtain ⟨rfl, z⟩ := z
  exact wpAny_pure (wpAny_pure z)
end Mine
set_option maxRecDepth 100000
set_option maxHeartbeats 4000000
namespace Mine
open PySem PySem.W PySem.Calls PyProof.Rows
theorem refuse_list (self : Value) (C : Addr) : refuseLoop self "__setattr__" [.ref C, .type "list", .type "object"] = pure () := by
  rw [refuseLoop_ref]
  kernel_rfl
open Builtin Builtin.ObjectAttr in
theorem osa_pile {w : World} {A : Around} {R : Result → Shared → Prop} {s : Shared} {B : Heap} {L : Addr} {m : Str → Option Value} {x dx : Addr} {items : Array Value} {c : Nat} {pre post : List (Addr × Obj)} {tk : Tok} {v : Value} (X₀ : (KK w.params).In B) (F : Fr B L s.heap m)
    (N : News B L s.heap (pre ++ (dx, emptyDict) :: post)) (h1 : (x, pileO dx items c) ∈ pre ++ (dx, emptyDict) :: post) (hp1 : ∀ p ∈ pre, p.1 ≠ dx) (hp2 : ∀ p ∈ post, p.1 ≠ dx)
    (h : ∀ h', Fr B L h' m → News B L h' (pre ++ (dx, dictOf [⟨PyData.keyHash w.params (u "_initial_size"), .str (u "_initial_size") s.toks, v⟩] 1) :: post) → R (.ok (.ret .none)) { s with heap := h', toks := s.toks + 1 }) :
    codeAny (M₁ w) A (.call (.builtin "object.__setattr__") ⟨[.ref x, .str (u "_initial_size") tk, v], []⟩) R s := by
  have X := X₀.keeps F.keep
  have I := inst_pile N h1 (List.mem_append.mpr (.inr (.head _)))
  have SF := PySem.F.store_object
  obtain ⟨cd, hc, hmro, hdict⟩ : ∃ cd, clsIn (KK w.params) 172 = some cd ∧ cd.mro = [.ref 172, .type "list", .type "object"] ∧ cd.hasDict = true := ⟨_, rfl, rfl, rfl⟩
  have sub : Looks (M₁ w) s.heap (isInstance (.ref x) (.type "object")) true := I.type.andThen (looks_mroIn X (by kernel_rfl))
  refine codeAny_call_builtin SF.slot.plain SF.entry (@check_slot (M₁ w) _ _ s "object.__setattr__" "object" "__setattr__" (.ref x) [.str (u "_initial_size") tk, v] [] _ SF.kind SF.split sub (SF.args (.ref x) (.str (u "_initial_size") tk) v) ?_)
  have hm : Looks (M₁ w) s.heap (mroOf (.ref 172)) cd.mro := (looks_clsIn X hc).andThen .now
  have ha : findIn (KK w.params) (.ref 172) (u "_initial_size") = some none := by kernel_rfl
  have L3 : Looks (M₁ w) s.heap (storeTaker? none) none := .now
  rw [osa_eq, refuse_eq]
  refine wpAny_bind (wpAny_bind (I.type.here (wpAny_bind (hm.here ?_))))
  rw [hmro, refuse_list]
  refine wpAny_pure (wpAny_bind (I.type.here (wpAny_bind ((looks_findIn X ha).here (wpAny_bind (L3.here ?_))))))
  obtain ⟨U1, U2⟩ := news_upd (f := Obj.putName (u "_initial_size") (PyData.keyHash w.params (u "_initial_size")) (.str (u "_initial_size") s.toks) v) (o' := dictOf [⟨PyData.keyHash w.params (u "_initial_size"), .str (u "_initial_size") s.toks, v⟩] 1) F N hp1 hp2 (by rfl) (by rfl)
  have D := (N (dx, emptyDict) (by simp)).1
  have D' := (U2 (dx, dictOf [⟨PyData.keyHash w.params (u "_initial_size"), .str (u "_initial_size") s.toks, v⟩] 1) (by simp)).1
  refine wpAny_bind (wpAny_pure (wpAny_bind (wpAny_bind (wpAny_loadPart I.at_ (wpAny_bind ((looks_clsIn X hc).here ?_))))))
  rw [hdict]
  refine wpAny_pure (a := some dx) (wpAny_bind (wpAny_pure (wpAny_bind ?_)))
  unfold nsSet
  refine wpAny_bind (wpAny_bind (wpAny_askSetting (wpAny_pure (wpAny_bind (wpAny_mkText (wpAny_bind (wpAny_loadPart D ?_)))))))
  dsimp only
  rw [if_neg (by decide +kernel)]
  refine wpAny_updatePart D ?_
  refine wpAny_bind (wpAny_lookBehind D' (pastItsLine_dict (by rw [List.size_toArray, sizeLine_eq]; simp)) ?_)
  exact wpAny_pure (h _ U1 U2)
end Mine
set_option maxRecDepth 100000
set_option maxHeartbeats 4000000
namespace Mine
open PySem PySem.W PySem.Calls PyProof.Rows
section
variable {w : World} {mean : ExcName → Option Value} {mg mb : Str → Option Value} {B : Heap} {A : Around} {L : Addr} {m : Str → Option Value} {news : List (Addr × Obj)}
/-- spec_at for a call that a code makes -/
theorem spec_atC {f : Addr} {name qual : Str} {params : Arguments} {body : List Stmt} {scope : Scope} {cl : List (Str × Addr)} {dV kV doc pm cdv ct oc : Value} {an od : Option Addr} {osl : Array (Option Value)} {vals : List Value} {binds : List (Str × Value)} {h : Heap} {g : Array GenState} {d : Drawn} {tk : Nat} {os : OsState}
    {R : Result → Shared → Prop} (Res : Value → List (Addr × Obj) → Prop)
    (F : Fr B L h m) (N : News B L h news) (X : (KK w.params).In B) (T : Top₁ mean mg mb B)
    (hf : (KK w.params).lookup f = some ⟨oc, od, .func (fnX name qual params body scope cl dV kV doc pm an cdv ct), osl⟩) (hc : codeIn (KK w.params) cdv qual = true) (hroom : A.depth < recursionLimit)
    (hbind : BindsTo ⟨h, g, d, tk, os⟩ (fnX name qual params body scope cl dV kV doc pm an cdv ct) ⟨vals, []⟩ binds) (hloc : ∀ x ∈ binds, scope.names.lookup x.1 = some .local)
    (hbody : ∀ L' h₁ fo (Q' : Flow → Shared → Prop), L < L' → Fr B L' h₁ (fun x => binds.reverse.lookup x) → News B L' h₁ ((L, fo) :: news) →
      (∀ fl h' tk' m' news', Res (outOf fl) news' → Fr B L' h' m' → News B L' h' ((L, fo) :: news') → (∀ p ∈ news', p.1 ≠ L) → Q' fl ⟨h', g, d, tk', os⟩) →
      _root_.PySem.wpAt (M₁ w) (A.deeper (envX qual scope L' f cdv cl)) (.func body (envX qual scope L' f cdv cl)) (execs body (envX qual scope L' f cdv cl)) Q' (fun _ _ => False) ⟨h₁, g, d, tk + binds.length, os⟩)
    (hQ : ∀ v h' tk' news', Res v news' → Fr B L h' m → News B L h' news' → R (.ok (.ret v)) ⟨h', g, d, tk', os⟩)
    (hco : scope.isCoroutine = false := by rfl) (hgen : scope.isGenerator = false := by rfl) (hk : scope.kind = .function := by rfl) (hcell : ∀ x ∈ scope.names, x.2 ≠ .cell := by decide) :
    codeAny (M₁ w) A (.call (.ref f) ⟨vals, []⟩) R ⟨h, g, d, tk, os⟩ := by
  have X' : (KK w.params).In h := X.keeps F.keep
  obtain ⟨fo, hfo⟩ := frame_at F
  refine ks_codeAny_call_defAt (fd := fnX name qual params body scope cl dV kV doc pm an cdv ct) (body := body) (binds := binds) hroom (X' _ _ hf) rfl (T.nolimit.keeps F.keep) (codeRec_of X' hc) rfl hbind hcell hloc (fun h₁ hns hk₁ => ?_) hco hgen hk
  have F₁ : Fr B h.objs.size h₁ (fun x => binds.reverse.lookup x) := ⟨hns, fun b o e => hk₁ _ _ (F.keep _ _ e), frame_size F⟩
  have N₁ : News B h.objs.size h₁ ((L, fo) :: news) := by
    intro p hp
    rcases List.mem_cons.mp hp with rfl | hp
    · exact ⟨hk₁ _ _ hfo, Nat.ne_of_lt (Heap.lt_size hfo), get_none_of_size F.above⟩
    · obtain ⟨a, b, c⟩ := N p hp
      exact ⟨hk₁ _ _ a, Nat.ne_of_lt (Heap.lt_size a), c⟩
  refine ks_wpAt_mono (hbody h.objs.size h₁ fo _ (Heap.lt_size hfo) F₁ N₁ ?_) (fun _ _ z => z) (fun _ _ z => z.elim)
  intro fl h' tk' m' news' hr F'' N'' hne
  have hL := (N'' _ (.head _)).1
  obtain ⟨o, es, ep, ho, r⟩ := F.ns
  obtain rfl : o = fo := Option.some.inj (ho.symm.trans hfo)
  exact hQ (outOf fl) h' tk' news' hr ⟨⟨o, es, ep, hL, r⟩, F''.keep, F.above⟩ fun p hp => ⟨(N'' _ (.tail _ hp)).1, hne p hp, (N'' _ (.tail _ hp)).2.2⟩
end
theorem filledCls8 (P : Params) : PySem.Challenge.rw_wr0051_01 = PySem.Challenge.rw_wr0051_01 ∧ KK P = KK P := by k_fill; exact ⟨rfl, rfl⟩
theorem code_init {w : World} {mean : ExcName → Option Value} {mg mb : Str → Option Value} {B : Heap} (T : Top₁ mean mg mb B) (X : (KK w.params).In B)
    {A : Around} {L : Addr} {h : Heap} {g : Array GenState} {d : Drawn} {tk : Nat} {os : OsState} {news : List (Addr × Obj)} {m : Str → Option Value} {x dx : Addr} {v : Int} {t1 : Tok} {R : Result → Shared → Prop}
    (F : Fr B L h m) (N : News B L h ((x, pileO dx #[] 0) :: (dx, emptyDict) :: news)) (hd : A.depth < recursionLimit) (hh : A.handled = none) (hxd : dx < x) (hn : ∀ p ∈ news, p.1 < dx)
    (hR : ∀ h' tk' od c, Own od (.int v t1) → Fr B L h' m → News B L h' ((x, pileO dx #[] c) :: (dx, od) :: news) → R (.ok (.ret .none)) ⟨h', g, d, tk', os⟩) :
    codeAny (M₁ w) A (.call (.ref 109) ⟨[.ref x, .int v t1], []⟩) R ⟨h, g, d, tk, os⟩ := by
  obtain ⟨ah, ad, af, ag, au⟩ := A
  obtain rfl : ah = none := hh
  refine spec_atC (binds := [(u "self", Value.ref x), (u "initial_size", .int v t1)]) (fun v' n' => v' = .none ∧ ∃ od c, Own od (.int v t1) ∧ n' = (x, pileO dx #[] c) :: (dx, od) :: news) F N X T (by rfl) (by rfl) hd (kp_binds (K := KK w.params) (X.keeps F.keep) (fun S => by kernel_rfl)) (locs (by rfl)) ?_ ?_ (by rfl) (by rfl) (by rfl) (by decide)
  · intro L' h₁ fo Q' hlt F' N' hR
    have hL1 : L ≠ dx := Ne.symm (N _ (.tail _ (.head _))).2.1
    have hdall : ∀ p ∈ news, p.1 ≠ dx := fun p hp => Nat.ne_of_lt (hn p hp)
    refine at_cut (R := fun s' => ∃ h' tk' tn, s' = ⟨h', g, d, tk', os⟩ ∧ Fr B L' h' (fun y => List.lookup y [(u "self", Value.ref x), (u "initial_size", .int v t1)].reverse) ∧ News B L' h' ((L, fo) :: (x, pileO dx #[] 0) :: (dx, dictOf [⟨PyData.keyHash w.params (u "_initial_size"), .str (u "_initial_size") tn, .int v t1⟩] 1) :: news)) ?_ ?_
    · intro Q'' hQ _
      repeat' (first | (k_unfold; (try dsimp only)) | (walk1; (try dsimp only)) | (dsimp only; walk1))
      refine set_plain (X.keeps F'.keep) (inst_pile N' (.tail _ (.head _)) (.tail _ (.tail _ (.head _)))) (by kernel_rfl) ?_
      refine osa_pile (pre := [(L, fo), (x, pileO dx #[] 0)]) (post := news) X F' N' (.tail _ (.head _)) ?_ hdall ?_
      · intro p hp
        rcases List.mem_cons.mp hp with rfl | hp
        · exact hL1
        · rw [List.mem_singleton.mp hp]; exact Nat.ne_of_gt hxd
      intro h₂ F₂ N₂
      exact hQ _ ⟨h₂, _, _, rfl, F₂, N₂⟩
    rintro s' ⟨h₂, tk₂, tn, rfl, F₂, N₂⟩
    have O : Own (dictOf [⟨PyData.keyHash w.params (u "_initial_size"), .str (u "_initial_size") tn, .int v t1⟩] 1) (.int v t1) := ⟨rfl, rfl, rfl, rfl, rfl, rfl⟩
    have I : PySem.W.InstAt h₂ x (pileO dx #[] 0) 172 (some (dictOf [⟨PyData.keyHash w.params (u "_initial_size"), .str (u "_initial_size") tn, .int v t1⟩] 1)) := inst_pile N₂ (.tail _ (.head _)) (.tail _ (.tail _ (.head _)))
    repeat' (first | (k_unfold; (try dsimp only)) | (walk1; (try dsimp only)) | (dsimp only; walk1))
    refine ks_node (K := KK w.params) F₂ X N₂ T (by rfl) (by rfl) (by rfl) I (by rfl) (by rfl) (by first | rfl | decide +kernel) (by rfl) (by rfl) (by kernel_rfl) (by kernel_rfl) (by decide) (by rfl) (by rfl) (by rfl) (by rfl) (by decide +kernel) (by first | boot_by_name | rfl | kernel_rfl) ?_
    intro so h₃ F₃ N₃ l3
    dsimp only at *
    refine super_init X F₃ N₃ (.head _) (inst_pile N₃ (.tail _ (.tail _ (.head _))) (.tail _ (.tail _ (.tail _ (.head _))))) ?_
    intro q h₄ F₄ N₄ l4 hk4
    dsimp only
    refine callWith_bound0 (N₄ _ (.head _)).1 rfl rfl ?_
    refine call_wrap (n := "__init__") (N₄ _ (.head _)).1 (by decide +kernel) (by decide +kernel) PySem.F.entry_list_init (PySem.F.args_list_init_1 _) ?_
    have hx := (N₄ _ (.tail _ (.tail _ (.tail _ (.head _))))).1
    dsimp only at hx
    unfold pileO at hx
    unfold Builtin.«list.__init__»
    wp_walk
    refine ⟨_, rfl, ?_⟩
    have hxL : x ≠ L := (N _ (.head _)).2.1
    have z := N₄ _ (.tail _ (.tail _ (.tail _ (.head _))))
    have e3 : Obj.mapSeq (fun _ => #[]) (pileO dx #[] 0) = pileO dx #[] 0 := by rfl
    have N₅ := news_set (pre := [(q, _), (so, _), (L, fo)]) (post := (dx, _) :: news) N₄ (fun p hp => by
      rcases List.mem_cons.mp hp with rfl | hp
      · exact Nat.ne_of_gt (l4 _ (.tail _ (.tail _ (.head _))))
      rcases List.mem_cons.mp hp with rfl | hp
      · exact Nat.ne_of_gt (l3 _ (.tail _ (.head _)))
      · rw [List.mem_singleton.mp hp]; exact Ne.symm hxL) (fun p hp => by
      rcases List.mem_cons.mp hp with rfl | hp
      · exact Nat.ne_of_lt hxd
      · exact Nat.ne_of_lt (Nat.lt_trans (hn p hp) hxd)) (Heap.SameBut.update (f := Obj.mapSeq (fun _ => #[])) ..) (by rw [Heap.get?_update_self _ z.1 (by rw [e3]; rfl), e3])
    have F₅ := F₄.change (Heap.SameBut.update (f := Obj.mapSeq (fun _ => #[])) ..) z.2.1 z.2.2
    refine at_of_any ?_
    repeat' (first | (k_unfold; (try dsimp only)) | (walk1; (try dsimp only)) | (dsimp only; walk1))
    refine hR .next _ _ _ _ ⟨rfl, _, 0, O, rfl⟩ F₅ (fun p hp => N₅ p (.tail _ (.tail _ hp))) (fun p hp => ?_)
    rcases List.mem_cons.mp hp with rfl | hp
    · exact hxL
    rcases List.mem_cons.mp hp with rfl | hp
    · exact Ne.symm hL1
    · exact (N _ (.tail _ (.tail _ hp))).2.1
  · rintro v' h' tk' n' ⟨rfl, od, c, O, rfl⟩ F' N'
    exact hR h' tk' od c O F' N'
end Mine
set_option maxRecDepth 100000
set_option maxHeartbeats 4000000
namespace Mine
open PySem PySem.W PySem.Calls PyProof.Rows
/-- a pile is made -/
theorem spec_make {w : World} {mean : ExcName → Option Value} {mg mb : Str → Option Value} {B : Heap} (T : Top₁ mean mg mb B) (X : (KK w.params).In B)
    {A : Around} {L : Addr} {h : Heap} {g : Array GenState} {d : Drawn} {tk : Nat} {os : OsState} {news : List (Addr × Obj)} {m : Str → Option Value} {v : Int} {t1 : Tok} {Q E : Value → Shared → Prop}
    (F : Fr B L h m) (N : News B L h news) (hd : A.depth + 1 < recursionLimit) (hh : A.handled = none)
    (hQ : ∀ h' tk' x dx od c, Own od (.int v t1) → dx < x → L < dx → (∀ p ∈ news, p.1 < dx) → Fr B L h' m → News B L h' ((x, pileO dx #[] c) :: (dx, od) :: news) → Q (.ref x) ⟨h', g, d, tk', os⟩) :
    wpAny (M₁ w) A (call (.ref 172) [.int v t1]) Q E ⟨h, g, d, tk, os⟩ := by
  have X' := X.keeps F.keep
  obtain ⟨fo, hfo⟩ := frame_at F
  have N₁ := (N.push F emptyDict).push (F.push _) (pileO h.objs.size #[] 0)
  rw [Heap.size_push] at N₁
  refine wpAny_call (make_L (makesL X') (looks_findIn X' (by kernel_rfl)) (fun self => bind_fn X' (f := 109) self (by kernel_rfl)) ?_)
  refine code_init T X (dx := h.objs.size) ((F.push _).push _) N₁ ?_ hh (Nat.lt_succ_self _) (fun p hp => Heap.lt_size (N p hp).1) ?_
  · have e : (A.under (.builtin "type.__call__" ⟨[.ref 172, .int v t1], []⟩)).depth = A.depth + (Code.builtin "type.__call__" ⟨[.ref 172, .int v t1], []⟩).weight := rfl
    have e2 : (Code.builtin "type.__call__" ⟨[.ref 172, .int v t1], []⟩).weight ≤ 1 := by first | decide | exact Nat.le_of_ble_eq_true (by kernel_rfl) | (show _ ≤ _; decide +kernel)
    rw [e]; omega
  · intro h' tk' od c O F' N'
    exact ⟨rfl, hQ h' tk' _ _ od c O (Nat.lt_succ_self _) (Heap.lt_size hfo) (fun p hp => Heap.lt_size (N p hp).1) F' N'⟩
end Mine
set_option maxRecDepth 100000
set_option maxHeartbeats 4000000
namespace Mine
open PySem PySem.W PySem.Calls PyProof.Rows
theorem getItem_pile {w : World} {A : Around} {E : Value → Shared → Prop} {s : Shared} {x : Addr} {ox od : Obj} {k : Value} {Q : Value → Shared → Prop} (X : (KK w.params).In s.heap) (I : PySem.W.InstAt s.heap x ox 172 (some od))
    (h : wpAny (M₁ w) A (call (.builtin "list.__getitem__") [.ref x, k]) Q E s) : wpAny (M₁ w) A (getItem (.ref x) k) Q E s := by
  unfold getItem sequenceKey
  refine wpAny_holding (wpAny_bind (wpAny_bind (I.type.here ?_)))
  refine wpAny_bind ((anyM_none X (show noSeq (KK w.params) 172 = true by kernel_rfl)).here ?_)
  rw [if_pos (show (!false) = true from rfl)]
  refine wpAny_pure (wpAny_bind ?_)
  unfold callSpecial? specialOf
  refine wpAny_bind (wpAny_bind (I.type.here ((looks_findIn X (show findIn (KK w.params) (.ref 172) "__getitem__" = some (some (.builtin "list.__getitem__")) by kernel_rfl)).here (wpAny_holding (wpAny_bind (wpAny_of_eq (slot_list_getitem.bind _) (wpAny_bind (wpAny_mono h (fun _ _ z => wpAny_pure (wpAny_pure z)) fun _ _ z => z))))))))
end Mine
set_option maxRecDepth 100000
set_option maxHeartbeats 4000000
namespace Mine
open PySem PySem.W PySem.Calls PyProof.Rows
section
variable {w : World} {A : Around} {E : Value → Shared → Prop} {s : Shared} {x dx sl : Addr} {items : Array Value} {c : Nat} {od : Obj} {t0 : Tok}
/-- a slice from 0 on, its parts read -/
theorem parts_from {M : Model} {Q : Value × Value × Value → Shared → Prop} (hs : s.heap.IsSliceOf sl (.int 0 t0) .none .none) (h : Q (rawPart (some 0), rawPart none, rawPart none) s) :
    wpAny M A (Builtin.List.listSliceParts (.ref sl)) Q E s := by
  obtain ⟨os, hos, hcs, hds⟩ := id hs
  rw [listSliceParts_eq]
  refine wpAny_bind (wpAny_field hos hds (x := .none) rfl (wpAny_bind (wpAny_listPart .none ?_)))
  rw [if_neg (by exact Bool.false_ne_true)]
  refine wpAny_bind (wpAny_field hos hds (x := .int 0 t0) rfl (wpAny_bind (wpAny_listPart (.int 0 t0) ?_)))
  exact wpAny_bind (wpAny_field hos hds (x := .none) rfl (wpAny_bind (wpAny_listPart .none (wpAny_pure h))))
theorem getslice_pile {Q : Value → Shared → Prop} (X : (KK w.params).In s.heap) (I : PySem.W.InstAt s.heap x (pileO dx items c) 172 (some od)) (hs : s.heap.IsSliceOf sl (.int 0 t0) .none .none)
    (h : Q (.ref s.heap.objs.size) { s with heap := s.heap.push { cls := .type "list", data := .seq items } }) (hsz : items.size ≤ sizeLine) :
    wpAny (M₁ w) A (call (.builtin "list.__getitem__") [.ref x, .ref sl]) Q E s := by
  refine call_sub X I (by rfl) (n := "__getitem__") (by decide +kernel) (by decide +kernel) entry_list_getitem (args_list_getitem _ _) ?_
  obtain ⟨os, hos, hcs, hds⟩ := id hs
  have hTs : s.TypeIs (.ref sl) "slice" := ⟨os, hos, hcs⟩
  show wpAny _ _ (Builtin.List.listSubscript? (.ref sl) >>= _) _ _ s
  refine wpAny_bind ?_
  unfold Builtin.List.listSubscript?
  refine wpAny_bind (wpAny_specialOf hTs slice_no_index ?_)
  simp only [Option.isNone_none, if_true]
  refine wpAny_pure ?_
  show wpAny _ _ (typeOf (.ref sl) >>= _) _ _ s
  refine wpAny_bind (wpAny_typeOf hTs ?_)
  rw [if_neg (by decide)]
  refine wpAny_bind (parts_from hs ?_)
  refine wpAny_bind (m := Builtin.List.listItems (.ref x)) ?_
  unfold Builtin.List.listItems
  refine wpAny_bind (wpAny_seqItems I.at_ rfl (wpAny_pure ?_))
  refine wpAny_bind (wpAny_of_eq (sliceIndices_raw (some 0) none none items.size (by decide)) ?_)
  refine wpAny_bind (wpAny_newObj_type (wpAny_pure ⟨_, rfl, ?_⟩) ?_)
  · have e := slicePick_from items 0 (Nat.zero_le _)
    simp only [List.drop_zero] at e
    unfold slicePick at e
    show Q _ { s with heap := s.heap.push { cls := .type "list", data := .seq (List.filterMap _ _).toArray } }
    rw [show (some (0 : Int)) = some ((0 : Nat) : Int) from rfl, e]
    exact h
  · have e := slicePick_size_le items (some 0) none none
    unfold slicePick at e
    show (List.filterMap _ _).toArray.size ≤ _
    exact Nat.le_trans e hsz
theorem setslice_pile {D : Addr} {c' : Nat} {Q : Value → Shared → Prop} (X : (KK w.params).In s.heap) (I : PySem.W.InstAt s.heap x (pileO dx items c) 172 (some od)) (hs : s.heap.IsSliceOf sl (.int 0 t0) .none .none)
    (hD : s.heap.get? D = some (W.listOf #[] c')) (hDx : x ≠ D)
    (h : Q .none { s with heap := s.heap.update x (Obj.mapSeq (fun xs => xs.extract 0 (Int.toNat 0) ++ #[] ++ xs.extract items.size xs.size)) }) (hsz : items.size ≤ 1000) :
    wpAny (M₁ w) A (call (.builtin "list.__setitem__") [.ref x, .ref sl, .ref D]) Q E s := by
  refine call_sub X I (by rfl) (n := "__setitem__") (by decide +kernel) (by decide +kernel) entry_list_setitem (args_list_setitem _ _ _) ?_
  obtain ⟨os, hos, hcs, hds⟩ := id hs
  have hTs : s.TypeIs (.ref sl) "slice" := ⟨os, hos, hcs⟩
  show wpAny _ _ (Builtin.List.listSubscript? (.ref sl) >>= _) _ _ s
  refine wpAny_bind ?_
  unfold Builtin.List.listSubscript?
  refine wpAny_bind (wpAny_specialOf hTs slice_no_index ?_)
  simp only [Option.isNone_none, if_true]
  refine wpAny_pure ?_
  show wpAny _ _ (typeOf (.ref sl) >>= _) _ _ s
  refine wpAny_bind (wpAny_typeOf hTs ?_)
  rw [if_neg (by decide)]
  refine wpAny_bind (parts_from hs ?_)
  rw [if_neg (show ¬ Builtin.List.listSameRef (Value.ref x) (Value.ref D) = true by show ¬ ((x == D) = true); simpa using hDx)]
  refine wpAny_bind (m := Builtin.List.listAllItems _ _) ?_
  unfold Builtin.List.listAllItems
  refine wpAny_bind (wpAny_typeOf ⟨_, hD, rfl⟩ ?_)
  rw [if_pos (by decide)]
  unfold Builtin.List.listItems
  refine wpAny_bind (wpAny_seqItems hD rfl (wpAny_pure ?_))
  refine wpAny_bind (wpAny_bind (wpAny_seqItems I.at_ rfl (wpAny_pure ?_)))
  refine wpAny_bind (wpAny_of_eq (sliceIndices_raw (some 0) none none items.size (by decide)) ?_)
  have e : sliceBounds (some 0) none none items.size = (0, (items.size : Int), 1) := by
    simp [sliceBounds]; omega
  rw [e]
  dsimp only
  rw [if_pos (by decide)]
  refine wpAny_bind (wpAny_rule ?_)
  have z1000 : 1000 ≤ sizeLine := by decide
  rw [if_neg (by
    show ¬ (decide (items.size + 0 > sizeLine) = true)
    rw [decide_eq_true_eq]; omega)]
  have e2 : (max (0 : Int) (items.size : Int)).toNat = items.size := by omega
  rw [e2]
  refine wpAny_bind (wpAny_updateSeq I.at_ rfl ?_ (_hz' := by
    show ((items.extract 0 0 ++ #[]) ++ items.extract items.size items.size).size ≤ _
    simp))
  refine wpAny_bind (wpAny_letGo (wpAny_pure ⟨.none, rfl, ?_⟩))
  exact h
theorem sub_pile {value : Expr} {lower upper : Option Expr} {sp : Pos} {i : Value} {Q : Value → Shared → Prop} (X : (KK w.params).In s.heap) (I : PySem.W.InstAt s.heap x (pileO dx items c) 172 (some od))
    (hg : wpAny (M₁ w) A (getItem (.ref x) i) Q E s) : wpAny (M₁ w) A (subscriptTail value (.Slice lower upper none sp) (.ref x) i) Q E s := by
  unfold subscriptTail
  refine wpAny_bind ?_
  rw [getitemInPython_of_ne (by intro z; cases z)]
  refine wpAny_bind ?_
  unfold specialOf
  refine wpAny_bind (I.type.here ((looks_findIn X (show findIn (KK w.params) (.ref 172) "__getitem__" = some (some (.builtin "list.__getitem__")) by kernel_rfl)).here ?_))
  have fin : wpAny (M₁ w) A (operate [i, .ref x] (getItem (.ref x) i)) (fun r s₃ => wpAny (M₁ w) A (letTemporaryGo value (.ref x) r >>= fun _ => pure r) Q E s₃) E s :=
    wpAny_operating (wpAny_mono hg (fun r s₃ h₃ => wpAny_bind (wpAny_letTemporaryGo (wpAny_pure h₃))) fun _ _ x => x)
  first
    | exact wpAny_pure (wpAny_bind fin)
    | exact wpAny_bind (wpAny_pure (wpAny_bind fin))
    | exact wpAny_bind fin
theorem setItem_pile {i v : Value} {Q : Unit → Shared → Prop} (X : (KK w.params).In s.heap) (I : PySem.W.InstAt s.heap x (pileO dx items c) 172 (some od))
    (h : wpAny (M₁ w) A (call (.builtin "list.__setitem__") [.ref x, i, v]) (fun _ => Q ()) E s) : wpAny (M₁ w) A (setItem (.ref x) i v) Q E s := by
  unfold setItem sequenceKey
  refine wpAny_holding (wpAny_bind (wpAny_bind (I.type.here ?_)))
  refine wpAny_bind ((anyM_none X (show noSeq (KK w.params) 172 = true by kernel_rfl)).here ?_)
  rw [if_pos (show (!false) = true from rfl)]
  refine wpAny_pure (wpAny_bind ?_)
  unfold callSpecial? specialOf
  refine wpAny_bind (wpAny_bind (I.type.here ((looks_findIn X (show findIn (KK w.params) (.ref 172) "__setitem__" = some (some (.builtin "list.__setitem__")) by kernel_rfl)).here (wpAny_holding (wpAny_bind (wpAny_of_eq (slot_list_setitem.bind _) (wpAny_bind (wpAny_mono h (fun _ _ z => wpAny_pure (wpAny_pure z)) fun _ _ z => z))))))))
end
end Mine
set_option maxRecDepth 100000
set_option maxHeartbeats 4000000
namespace Mine
open PySem PySem.W PySem.Calls PyProof.Rows
theorem filledCls10 (P : Params) : PySem.Challenge.rw_wr0051_01 = PySem.Challenge.rw_wr0051_01 ∧ KK P = KK P := by k_fill; exact ⟨rfl, rfl⟩
/-- pop_from: the whole pile comes back as a list, the pile is empty -/
theorem spec_popfrom {w : World} {mean : ExcName → Option Value} {mg mb : Str → Option Value} {B : Heap} (T : Top₁ mean mg mb B) (X : (KK w.params).In B)
    {A : Around} {L : Addr} {h : Heap} {g : Array GenState} {d : Drawn} {tk : Nat} {os : OsState} {news news' : List (Addr × Obj)} {m : Str → Option Value} {x dx : Addr} {items : Array Value} {c c' : Nat} {od : Obj} {Q E : Value → Shared → Prop}
    (F : Fr B L h m) (N : News B L h news) (h1 : (x, pileO dx items c) ∈ news) (h2 : (dx, od) ∈ news) (hd : A.depth + 1 < recursionLimit) (hh : A.handled = none)
    (hc' : c' = (if items.size = 0 then c else c + 1)) (U : Upd x (pileO dx items c) (pileO dx #[] c') news news') (hsz : items.size ≤ 500) (hne : ∀ p ∈ news', p.1 ≠ L)
    (hQ : ∀ h' tk' D, (∀ p ∈ news, p.1 < D) → L < D → Fr B L h' m → News B L h' ((D, W.listOf items 0) :: news') → Q (.ref D) ⟨h', g, d, tk', os⟩) :
    wpAny (M₁ w) A (call (.ref 124) [.ref x]) Q E ⟨h, g, d, tk, os⟩ := by
  obtain ⟨ah, ad, af, ag, au⟩ := A
  obtain rfl : ah = none := hh
  refine spec_at (binds := [(u "self", Value.ref x), (u "i", .int 0 2273)]) (fun v' n' => ∃ D, v' = .ref D ∧ (∀ p ∈ news, p.1 < D) ∧ L < D ∧ n' = (D, W.listOf items 0) :: news') F N X T (by rfl) (by rfl) (by dsimp only at *; omega) (kp_binds (K := KK w.params) (X.keeps F.keep) (fun S => by kernel_rfl)) (locs (by rfl)) ?_ ?_ (by rfl) (by rfl) (by rfl) (by decide)
  · intro L' h₁ fo Q' hlt F' N' hR
    have z1000 : 1000 ≤ sizeLine := by decide
    have hxL : x ≠ L := (N _ h1).2.1
    refine at_cut (R := fun s' => ∃ h' tk' D, s' = ⟨h', g, d, tk', os⟩ ∧ (∀ p ∈ (L, fo) :: news, p.1 < D) ∧ Fr B L' h' (put (fun y => List.lookup y [(u "self", Value.ref x), (u "i", .int 0 2273)].reverse) (u "popped") (.ref D)) ∧ News B L' h' ((D, W.listOf items 0) :: (L, fo) :: news)) ?_ ?_
    · intro Q'' hQ _
      have hlt0 : ∀ p ∈ (L, fo) :: news, p.1 < h₁.objs.size := fun p hp => Heap.lt_size (N' p hp).1
      repeat' (first | (k_unfold; (try dsimp only)) | ((fail_if_success (with_reducible show wpAny _ _ (subscriptTail _ _ _ _) _ _ _)); walk1; (try dsimp only)) | (dsimp only; (fail_if_success (with_reducible show wpAny _ _ (subscriptTail _ _ _ _) _ _ _)); walk1))
      have F₁ := F'.push { cls := Value.type "slice", data := Data.fields #[Value.int 0 2273, Value.none, Value.none] }
      have N₁ := N'.push F' { cls := Value.type "slice", data := Data.fields #[Value.int 0 2273, Value.none, Value.none] }
      have I : PySem.W.InstAt _ x (pileO dx items c) 172 (some od) := inst_pile N₁ (.tail _ (.tail _ h1)) (.tail _ (.tail _ h2))
      refine sub_pile (X.keeps F₁.keep) I (getItem_pile (X.keeps F₁.keep) I (getslice_pile (t0 := 2273) (X.keeps F₁.keep) I ⟨_, (N₁ _ (.head _)).1, rfl, rfl⟩ ?_ (by omega)))
      have F₂ := F₁.push { cls := .type "list", data := .seq items }
      have N₂ := N₁.push F₁ { cls := .type "list", data := .seq items }
      clear I
      repeat' (first | (k_unfold; (try dsimp only)) | (walk1; (try dsimp only)) | (dsimp only; walk1))
      rename_i h₂ F₃ N₃
      refine hQ _ ⟨h₂, _, _, rfl, ?_, F₃, fun p hp => ?_⟩
      · intro p hp
        refine Nat.lt_trans (hlt0 p hp) ?_
        show h₁.objs.size < (h₁.push _).objs.size
        rw [Heap.size_push]; exact Nat.lt_succ_self _
      · rcases List.mem_cons.mp hp with rfl | hp
        · exact N₃ _ (.head _)
        · exact N₃ _ (.tail _ (.tail _ hp))
    rintro s' ⟨h₂, tk₂, D, rfl, hD, F₂, N₂⟩
    repeat' (first | (k_unfold; (try dsimp only)) | (walk1; (try dsimp only)) | (dsimp only; walk1))
    rename_i l h₃ F₃ N₃ l1
    have F₄ := F₃.push { cls := Value.type "slice", data := Data.fields #[Value.int 0 2273, Value.none, Value.none] }
    have N₄ := N₃.push F₃ { cls := Value.type "slice", data := Data.fields #[Value.int 0 2273, Value.none, Value.none] }
    have I := inst_pile N₄ (.tail _ (.tail _ (.tail _ (.tail _ h1)))) (.tail _ (.tail _ (.tail _ (.tail _ h2))))
    have hxl : x < l := AllLt.lt l1.2.2 _ h1
    have hxD : x < D := hD _ (.tail _ h1)
    have hxs : x < h₃.objs.size := Heap.lt_size (N₃ _ (.tail _ (.tail _ (.tail _ h1)))).1
    have U' := Upd.tail (p := (h₃.objs.size, { cls := Value.type "slice", data := Data.fields #[Value.int 0 2273, Value.none, Value.none] })) (Nat.ne_of_gt hxs) (.tail (p := (l, W.listOf #[] 0)) (Nat.ne_of_gt hxl) (.tail (p := (D, W.listOf items 0)) (Nat.ne_of_gt hxD) (.tail (p := (L, fo)) (Ne.symm hxL) U)))
    refine setItem_pile (X.keeps F₄.keep) I (setslice_pile (X.keeps F₄.keep) I ⟨_, (N₄ _ (.head _)).1, rfl, rfl⟩ (N₄ _ (.tail _ (.head _))).1 (Nat.ne_of_lt hxl) ?_ (by omega))
    have z := N₄ _ (.tail _ (.tail _ (.tail _ (.tail _ h1))))
    have e3 : Obj.mapSeq (fun xs => xs.extract 0 (Int.toNat 0) ++ #[] ++ xs.extract items.size xs.size) (pileO dx items c) = pileO dx #[] c' := by
      have e4 : items.extract 0 (Int.toNat 0) ++ #[] ++ items.extract items.size items.size = #[] := by
        apply Array.eq_empty_of_size_eq_zero; simp
      by_cases h0 : items.size = 0
      · rw [hc', if_pos h0]
        have : items = #[] := Array.eq_empty_of_size_eq_zero h0
        subst this
        rfl
      · rw [hc', if_neg h0]
        have := mapSeq_pile (dx := dx) (items := items) (c := c) (f := fun xs => xs.extract 0 (Int.toNat 0) ++ #[] ++ xs.extract items.size xs.size) (by rw [e4]; simpa using Ne.symm h0)
        rw [e4] at this
        exact this
    have F₅ := F₄.change (Heap.SameBut.update (f := Obj.mapSeq (fun xs => xs.extract 0 (Int.toNat 0) ++ #[] ++ xs.extract items.size xs.size)) ..) z.2.1 z.2.2
    obtain ⟨pre, post, e1, e2, a, b⟩ := U'.split
    rw [e1] at N₄
    have N₅ := news_set N₄ a b (Heap.SameBut.update (f := Obj.mapSeq (fun xs => xs.extract 0 (Int.toNat 0) ++ #[] ++ xs.extract items.size xs.size)) ..) (by rw [Heap.get?_update_self _ z.1 (by rw [e3]; rfl), e3])
    rw [← e2] at N₅
    clear N₄ F₄ F₃ N₃ I z e1 e2
    repeat' (first | (k_unfold; (try dsimp only)) | (walk1; (try dsimp only)) | (dsimp only; walk1))
    refine hR (.ret _) _ _ _ _ ⟨D, rfl, fun p hp => hD p (.tail _ hp), hD _ (.head _), rfl⟩ F₅ (fun p hp => ?_) (fun p hp => ?_)
    · rcases List.mem_cons.mp hp with rfl | hp
      · exact N₅ _ (.tail _ (.tail _ (.tail _ (.head _))))
      rcases List.mem_cons.mp hp with rfl | hp
      · exact N₅ _ (.tail _ (.tail _ (.head _)))
      · exact N₅ _ (.tail _ (.tail _ (.tail _ (.tail _ hp))))
    · rcases List.mem_cons.mp hp with rfl | hp
      · exact Nat.ne_of_gt (hD _ (.head _))
      · exact hne p hp
  · rintro v' h' tk' n' ⟨D, rfl, hD, hL, rfl⟩ F' N'
    exact hQ h' tk' D hD hL F' N'
end Mine
set_option maxRecDepth 100000
set_option maxHeartbeats 1000000
namespace Mine
open PySem PySem.W PySem.Calls PyProof.Rows
/-- the base without the two code tables that grow -/
noncomputable def hide (B : Heap) : Heap := (B.update 134 fun o => { o with data := .freed }).update 141 fun o => { o with data := .freed }
theorem hide_get {B : Heap} {a : Addr} (h1 : a ≠ 134) (h2 : a ≠ 141) : (hide B).get? a = B.get? a := by
  unfold hide
  rw [Heap.get?_update_other _ _ (Ne.symm h2), Heap.get?_update_other _ _ (Ne.symm h1)]
theorem free_get {B : Heap} {a : Addr} : (B.update a fun o => { o with data := .freed }).get? a = none := by
  unfold Heap.get? Heap.update
  simp only [Array.getElem?_modify, if_pos]
  cases B.objs[a]? <;> rfl
theorem hide_141 {B : Heap} : (hide B).get? 141 = none := free_get
theorem hide_134 {B : Heap} : (hide B).get? 134 = none := by
  unfold hide
  rw [Heap.get?_update_other _ _ (by decide)]; exact free_get
theorem hide_size {B : Heap} : (hide B).objs.size = B.objs.size := by
  unfold hide Heap.update; simp
theorem hide_sub {B : Heap} {a : Addr} {o : Obj} (e : (hide B).get? a = some o) : B.get? a = some o ∧ a ≠ 134 ∧ a ≠ 141 := by
  by_cases h1 : a = 134
  · subst h1; rw [hide_134] at e; cases e
  by_cases h2 : a = 141
  · subst h2; rw [hide_141] at e; cases e
  rw [hide_get h1 h2] at e
  exact ⟨e, h1, h2⟩
theorem kx_kk {P : Params} {h : Heap} (X : (KX P).In h) : (KK P).In h := by
  intro a o e
  refine X a o ?_
  by_cases h1 : a = 134
  · subst h1; exact absurd e (by show ¬ (none = some o); intro z; cases z)
  by_cases h2 : a = 141
  · subst h2; exact absurd e (by show ¬ (none = some o); intro z; cases z)
  show List.lookup a ((134, o134 P) :: (141, o141 P) :: KK P) = some o
  rw [List.lookup_cons, show (a == 134) = false from beq_false_of_ne h1]
  dsimp only
  rw [List.lookup_cons, show (a == 141) = false from beq_false_of_ne h2]
  exact e
theorem kk_hide {P : Params} {h : Heap} (X : (KK P).In h) : (KK P).In (hide h) := by
  intro a o e
  by_cases h1 : a = 134
  · subst h1; exact absurd e (by show ¬ (none = some o); intro z; cases z)
  by_cases h2 : a = 141
  · subst h2; exact absurd e (by show ¬ (none = some o); intro z; cases z)
  rw [hide_get h1 h2]
  exact X a o e
theorem hide_keep {B : Heap} {a : Addr} {o : Obj} (e134 : B.get? 134 = some ⟨.none, none, .fields #[], #[]⟩) (e141 : B.get? 141 = some ⟨.none, none, .fields #[], #[]⟩) (e : B.get? a = some o) (hn : o.cls ≠ .none) : (hide B).get? a = some o := by
  rw [hide_get]
  · exact e
  · rintro rfl; rw [e134] at e; cases e; exact hn rfl
  · rintro rfl; rw [e141] at e; cases e; exact hn rfl
theorem hide_keepD {B : Heap} {a : Addr} {o : Obj} (e134 : B.get? 134 = some ⟨.none, none, .fields #[], #[]⟩) (e141 : B.get? 141 = some ⟨.none, none, .fields #[], #[]⟩) (e : B.get? a = some o) (hn : ∀ vs, o.data ≠ .fields vs) : (hide B).get? a = some o := by
  rw [hide_get]
  · exact e
  · rintro rfl; rw [e134] at e; cases e; exact hn _ rfl
  · rintro rfl; rw [e141] at e; cases e; exact hn _ rfl
theorem hide_ns {B : Heap} {a : Addr} {m : Str → Option Value} (h1 : a ≠ 134) (h2 : a ≠ 141) (x : B.Ns a m) : (hide B).Ns a m := by
  obtain ⟨o, es, ep, e, r⟩ := x
  exact ⟨o, es, ep, (hide_get h1 h2).trans e, r⟩
noncomputable def es3 (P : Params) : Array DictEntry := match (o3G P).data with | .dict es _ => es | _ => #[]
noncomputable def tabOfFn (P : Params) (n : Str) : Option Addr := match nsFind (es3 P) n with
  | some (.ref a) => (match (KK P).lookup a with
    | some ⟨_, _, .func fd, _⟩ => (match fd.code with
      | .ref c => (match (KK P).lookup c with
        | some ⟨_, _, .fields vs, _⟩ => (match (vs[11]? : Option Value) with | some (Value.ref p) => some p | _ => none)
        | _ => none)
      | _ => none)
    | _ => none)
  | _ => none
noncomputable def apartAll (P : Params) : Bool := (recsOf q₁).all fun d => match tabOfFn P d.name with | some p => p != 134 && p != 141 | none => false
theorem apart_all (P : Params) : apartAll P = true := by kernel_rfl
theorem tab_apart {w : World} {mean : ExcName → Option Value} {mg mb : Str → Option Value} {B : Heap} (T : Top₁ mean mg mb B) (X : (KK w.params).In B) {d : DefRec} (hd : d ∈ recsOf q₁) {a c P : Addr} {o : Obj} {fd : FuncData} (h1 : mg d.name = some (.ref a)) (h2 : B.get? a = some o) (h3 : o.data = .func fd) (h4 : fd.code = .ref c) (h6 : B.TableAt c P #[]) : P ≠ 134 ∧ P ≠ 141 := by
  have h := List.all_eq_true.mp (apart_all w.params) d hd
  obtain ⟨o', es, ep, e1, e2, e3, e4⟩ := T.g
  have e5 : B.get? 3 = some (o3G w.params) := X 3 _ rfl
  obtain rfl : o3G w.params = o' := Option.some.inj (e5.symm.trans e1)
  have e6 : es = es3 w.params := by unfold es3; rw [e2]
  subst e6
  have e7 : nsFind (es3 w.params) d.name = some (.ref a) := (e4 d.name).trans h1
  unfold tabOfFn at h
  rw [e7] at h
  dsimp only at h
  split at h
  · rename_i p hp
    split at hp
    · rename_i fd' _ hl
      have := X a _ hl
      rw [h2] at this
      cases this
      cases h3
      rw [h4] at hp
      dsimp only at hp
      obtain ⟨⟨oc, vs, q1, q2, q3, q4⟩, q5⟩ := h6
      split at hp
      · rename_i vs' _ hl'
        have := X c _ hl'
        rw [q1] at this
        cases this
        cases q3
        rw [q4] at hp
        cases hp
        simpa using h
      · cases hp
    · cases hp
  · cases h
theorem top_hide {w : World} {mean : ExcName → Option Value} {mg mb : Str → Option Value} {B : Heap} (T : Top₁ mean mg mb B) (X : (KK w.params).In B) (e134 : B.get? 134 = some ⟨.none, none, .fields #[], #[]⟩) (e141 : B.get? 141 = some ⟨.none, none, .fields #[], #[]⟩) : Top₁ mean mg mb (hide B) where
  g := hide_ns (by decide) (by decide) T.g
  b := hide_ns (by decide) (by decide) T.b
  nolimit := by
    obtain ⟨mc, h1, h2⟩ := T.nolimit
    exact ⟨mc, hide_ns (by decide) (by decide) h1, h2⟩
  nodigits := by
    obtain ⟨mc, h1, h2⟩ := T.nodigits
    exact ⟨mc, hide_ns (by decide) (by decide) h1, h2⟩
  fn := fun d hd => by
    obtain ⟨a, o, pm, code, doc, h1, h2, h3, c, o', vs, t, h4, h5, h6, h7⟩ := T.fn d hd
    refine ⟨a, o, pm, code, doc, h1, hide_keepD e134 e141 h2 (fun vs z => by rw [h3] at z; cases z), h3, c, o', vs, t, h4, ?_, h6, h7⟩
    rw [hide_get]
    · exact h5
    · rintro rfl; rw [e134] at h5; cases h5; cases h6; cases h7
    · rintro rfl; rw [e141] at h5; cases h5; cases h6; cases h7
  own := fun o ho => by
    have : ownsOf q₁ = [] := by kernel_rfl
    rw [this] at ho; cases ho
  const := T.const
  free := T.free
  builtins := T.builtins
  tab := fun d hd => by
    obtain ⟨a, o, fd, c, P, h1, h2, h3, h4, h5, h6⟩ := T.tab d hd
    obtain ⟨p1, p2⟩ := tab_apart T X hd h1 h2 h3 h4 h6
    have hc : ∀ oc, B.get? c = some oc → oc.cls = .type "code" → (hide B).get? c = some oc := fun oc e hn => hide_keep e134 e141 e (by rw [hn]; intro z; cases z)
    obtain ⟨⟨oc, vs, q1, q2, q3, q4⟩, q5⟩ := h6
    obtain ⟨o2, vs2, file, tf, flags, tg, inF, text, tt, op, r1, r2, r3, r4, r5, r6, r7, r8, r9, r10, r11⟩ := h5
    obtain rfl : oc = o2 := Option.some.inj (q1.symm.trans r1)
    exact ⟨a, o, fd, c, P, h1, hide_keepD e134 e141 h2 (fun vs z => by rw [h3] at z; cases z), h3, h4,
      ⟨oc, vs2, file, tf, flags, tg, inF, text, tt, op, hc _ q1 q2, r2, r3, r4, r5, r6, r7, (hide_get p1 p2).trans r8, r9, r10, r11⟩, ⟨oc, vs, hc _ q1 q2, q2, q3, q4⟩, (hide_get p1 p2).trans q5⟩
  bmain := by
    obtain ⟨bm, ob, h1, h2, h3, h4, r⟩ := T.bmain
    exact ⟨bm, ob, h1, h2, hide_keep e134 e141 h3 (by rw [h4]; intro z; cases z), h4, r⟩
  seer := fun hi => by
    obtain ⟨⟨mc, a1, a2, a3⟩, ⟨mm, b1, b2⟩, ⟨mb', c1, c2⟩, ⟨mg', bm, ob, d1, d2, d3, d4, d5⟩⟩ := T.seer hi
    exact ⟨⟨mc, hide_ns (by decide) (by decide) a1, a2, a3⟩, ⟨mm, hide_ns (by decide) (by decide) b1, b2⟩, ⟨mb', hide_ns (by decide) (by decide) c1, c2⟩, ⟨mg', bm, ob, hide_ns (by decide) (by decide) d1, d2, hide_keep e134 e141 d3 (by rw [d4]; intro z; cases z), d4, d5⟩⟩
end Mine
set_option maxRecDepth 100000
set_option maxHeartbeats 4000000
namespace Mine
open PySem PySem.W PySem.Calls PyProof.Rows
/-- an object that holds a sequence, of whatever class -/
noncomputable def SeqAt (h : Heap) (a : Addr) (items : Array Value) : Prop := ∃ o n, h.get? a = some o ∧ o.data = .seq items n
theorem SeqAt.at' {h h' : Heap} {a : Addr} {items : Array Value} (x : SeqAt h a items) (hk : ∀ o, h.get? a = some o → h'.get? a = some o) : SeqAt h' a items :=
  let ⟨o, n, e, r⟩ := x; ⟨o, n, hk o e, r⟩
section
variable {prog : Program} {w : World} {A : Around} {E : Value → Shared → Prop} {s : Shared} {it l : Addr} {i : Nat} {items : Array Value} {x : Value} {Q : Option Value → Shared → Prop}
theorem next_seq (hit : s.heap.IsListIter it l i) (hl : SeqAt s.heap l items) (hx : items[i]? = some x)
    (hQ : ∀ h', h'.IsListIter it l (i + 1) → Heap.SameBut it s.heap h' → Q (some x) { s with heap := h' }) : wpAny (model prog w) A (pyNext (.ref it)) Q E s := by
  obtain ⟨o, ho, hc, hd⟩ := id hit
  obtain ⟨ol, nl, hol, hdl⟩ := hl
  refine wpAny_bind (wpAny_attempt (wpAny_callSpecial?_slot (name := Str.ofString "__next__") hit.typeIs slot_listiter_next (wpAny_call_entry slot_listiter_next hit.typeIs entry_listiter_next ?_ (args_listiter_next _))))
  refine wpAny_bind (m := field (.ref it) 0) (wpAny_field ho hd (x := .ref l) rfl ?_)
  rw [if_neg (show ¬ ((Value.ref l == Value.none) = true) from Bool.false_ne_true)]
  refine wpAny_bind (m := field (.ref it) 1) (wpAny_field ho hd (x := .int i 0) rfl ?_)
  refine wpAny_bind (m := seqItems? (.ref l)) (wpAny_seqItems hol hdl ?_)
  simp only [Int.toNat_natCast, hx]
  refine wpAny_bind (wpAny_setField ho hd (by simp) (wpAny_pure ⟨x, rfl, wpAny_pure (hQ _ ⟨_, Heap.get?_update_self _ ho (Obj.isFreed_of_fields (Obj.data_mapFields hd _)), (Obj.cls_mapFields ..).trans hc, ?_⟩ (Heap.SameBut.update ..))⟩))
  rw [Obj.data_mapFields hd]; simp [rawInt]
theorem next_seq_end (hh : A.handled = none) (hit : s.heap.IsListIter it l i) (hl : SeqAt s.heap l items) (hx : items[i]? = none)
    (hQ : ∀ h', Heap.ExtBut it s.heap h' → Q none { s with heap := h' }) : wpAny (model prog w) A (pyNext (.ref it)) Q E s := by
  obtain ⟨o, ho, hc, hd⟩ := id hit
  obtain ⟨ol, nl, hol, hdl⟩ := hl
  refine wpAny_bind (wpAny_attempt (wpAny_callSpecial?_slot (name := Str.ofString "__next__") hit.typeIs slot_listiter_next (wpAny_call_entry slot_listiter_next hit.typeIs entry_listiter_next ?_ (args_listiter_next _))))
  refine wpAny_bind (m := field (.ref it) 0) (wpAny_field ho hd (x := .ref l) rfl ?_)
  rw [if_neg (show ¬ ((Value.ref l == Value.none) = true) from Bool.false_ne_true)]
  refine wpAny_bind (m := field (.ref it) 1) (wpAny_field ho hd (x := .int i 0) rfl ?_)
  refine wpAny_bind (m := seqItems? (.ref l)) (wpAny_seqItems hol hdl ?_)
  simp only [Int.toNat_natCast, hx]
  refine wpAny_bind (wpAny_rule (wpAny_bind (wpAny_setField ho hd (by simp) ?_)))
  refine wpAny_bind (m := newExc (.type "StopIteration") []) ?_
  simp only [newExc, newTuple]
  refine wpAny_bind (wpAny_newObj_type ?_ (by size_fits))
  refine wpAny_bind (m := firstArgMember _ _) (wpAny_of_eq (a := Value.none) (by first | rfl | (simp only [firstArgMember]; rfl)) ?_)
  refine wpAny_newObj_type ?_ (by size_fits)
  simp only [raiseNew]
  refine wpAny_bind (wpAny_handled ?_)
  rw [show A.in1.handled = none from hh]
  refine wpAny_bind (wpAny_pure (wpAny_throw ?_))
  refine wpAny_bind (wpAny_isInstance (T := "StopIteration") (b := true) ⟨_, Heap.get?_push_size _ rfl, rfl⟩ isSubtype_stop ?_)
  exact wpAny_pure (hQ _ (((Heap.SameBut.update ..).extBut.push _).push _))
end
/-- the pairs that a sequence holds, met by a list's iterator -/
theorem walks_pairs {prog : Program} {w : World} {A : Around} (hh : A.handled = none) (I ax : Addr) (hne : ax ≠ I) (items : Array Value) (Ts : Nat → Addr) (vals : Nat → Array Value)
    (hit : ∀ j, j < items.size → items[j]? = some (.ref (Ts j))) (hTI : ∀ j, j < items.size → Ts j ≠ I) :
    WalksU prog w A I (I :: ax :: (List.range items.size).map Ts) [I] items.size (fun j v => v = vals j)
      (fun j h => h.IsListIter I ax j ∧ SeqAt h ax items ∧ ∀ k, k < items.size → h.IsTuple (Ts k) (vals k))
      (fun j T h => (j < items.size ∧ T = Ts j) ∧ h.IsListIter I ax (j + 1) ∧ SeqAt h ax items ∧ ∀ k, k < items.size → h.IsTuple (Ts k) (vals k)) where
  sub := fun b hb => by rw [List.mem_singleton.mp hb]; exact .head _
  frame := fun _ _ _ st hk => ⟨st.1.at fun o e => hk I (.head _) o e, st.2.1.at' fun o e => hk ax (.tail _ (.head _)) o e,
    fun k hk' => (st.2.2 k hk').at fun o e => hk (Ts k) (.tail _ (.tail _ (List.mem_map.mpr ⟨k, List.mem_range.mpr hk', rfl⟩))) o e⟩
  item := fun i s Q E hi st hQ => by
    refine next_seq st.1 st.2.1 (hit i hi) fun h' hit' hs' => ?_
    have tup : ∀ k, k < items.size → h'.IsTuple (Ts k) (vals k) := fun k hk' => (st.2.2 k hk').extBut hs'.extBut (hTI k hk')
    exact hQ (Ts i) (vals i) h' s.toks rfl (tup i hi) ⟨⟨hi, rfl⟩, hit', st.2.1.at' fun o e => hs'.extBut ax o hne e, tup⟩ fun b o hb e => hs'.extBut b o (fun h => hb (by simp [h])) e
  go := fun _ _ _ _ _ s Q _ hm hQ => wpAny_letOwnedTupleGo_listiter hm.2.1 (hQ s.heap hm.2 fun _ _ _ e => e)
  apart := fun j T _ hm hmem => hTI j hm.1.1 (hm.1.2 ▸ List.mem_singleton.mp hmem)
  done := fun s Q E st hQ => next_seq_end hh st.1 st.2.1 (by simp) fun h' he' => hQ h' s.toks fun b o hb e => he' b o (fun h => hb (by simp [h])) e
  self := fun _ _ _ _ st hQ => wpAny_pyIter_listiter st.1 hQ
/-- iter of the pile: a list's iterator over it -/
theorem pyIter_pile {w : World} {A : Around} {E : Value → Shared → Prop} {s : Shared} {x dx : Addr} {items : Array Value} {c : Nat} {od : Obj} {Q : Value → Shared → Prop} (X : (KK w.params).In s.heap) (I : PySem.W.InstAt s.heap x (pileO dx items c) 172 (some od))
    (h : Q (.ref s.heap.objs.size) { s with heap := s.heap.push { cls := .type "list_iterator", data := .fields #[.ref x, .int 0 0] } }) : wpAny (M₁ w) A (pyIter (.ref x)) Q E s := by
  have hf : findIn (KK w.params) (.ref 172) "__iter__" = some (some (.builtin "list.__iter__")) := by kernel_rfl
  have made : wpAny (M₁ w) A (call (.builtin "list.__iter__") [.ref x]) (fun v s' => v = .ref s.heap.objs.size ∧ s' = { s with heap := s.heap.push { cls := .type "list_iterator", data := .fields #[.ref x, .int 0 0] } }) E s := by
    refine call_sub X I (by rfl) (n := "__iter__") (by decide +kernel) (by decide +kernel) entry_list_iter (args_list_iter _) ?_
    show wpAny _ _ (do ret (← newFields "list_iterator" [.ref x, rawInt 0])) _ _ s
    exact wpAny_bind (wpAny_newObj_type (wpAny_pure ⟨_, rfl, rfl, rfl⟩))
  unfold pyIter
  refine wpAny_bind (wpAny_bind (I.type.here ((looks_findIn X hf).here ?_)))
  have fin : ∀ refuse : Sem Value, wpAny (M₁ w) A (if (Value.builtin "list.__iter__" == Value.none) = true then (refuse >>= fun v => pure (some v)) else (call (.builtin "list.__iter__") [.ref x] >>= fun v => pure (some v))) (fun r s' => r = some (.ref s.heap.objs.size) ∧ s' = { s with heap := s.heap.push { cls := .type "list_iterator", data := .fields #[.ref x, .int 0 0] } }) E s := by
    intro refuse
    rw [if_neg (show ¬ ((Value.builtin "list.__iter__" == Value.none) = true) from Bool.false_ne_true)]
    exact wpAny_bind (wpAny_mono made (fun v s' h' => wpAny_pure ⟨by rw [h'.1], h'.2⟩) fun _ _ z => z)
  have one : ∀ refuse : Sem Value, wpAny (M₁ w) A (callSpecialIfBoundUnlessNone? (.ref x) "__iter__" refuse) (fun r s' => r = some (.ref s.heap.objs.size) ∧ s' = { s with heap := s.heap.push { cls := .type "list_iterator", data := .fields #[.ref x, .int 0 0] } }) E s := by
    intro refuse
    simp only [callSpecialIfBoundUnlessNone?, bindSpecialIfBound?]
    refine wpAny_holding (wpAny_bind (wpAny_bind (wpAny_bind (I.type.here ((looks_findIn X hf).here ?_)))))
    refine wpAny_bind (wpAny_askSetting (wpAny_ite ?_))
    split
    · exact wpAny_bind (wpAny_of_eq (slot_list_iter.bind _) (wpAny_pure (fin refuse)))
    · exact wpAny_tryCatch (wpAny_bind (wpAny_of_eq (slot_list_iter.bind _) (wpAny_pure (fin refuse))))
  refine wpAny_bind (wpAny_mono (one _) (fun r s' hr => ?_) fun _ _ z => z)
  obtain ⟨rfl, rfl⟩ := hr
  exact wpAny_bind (wpAny_specialOf (T := "list_iterator") ⟨_, Heap.get?_push_size _ rfl, rfl⟩ slot_listiter_next.lookup (wpAny_pure h))
end Mine
set_option maxRecDepth 100000
set_option maxHeartbeats 4000000
namespace Mine
open PySem PySem.W PySem.Calls PyProof.Rows
section
variable {w : World} {mean : ExcName → Option Value} {mg mb : Str → Option Value} {B : Heap} {A : Around} {L : Addr} {m : Str → Option Value} {news : List (Addr × Obj)}
/-- spec_at where generators may be made -/
theorem spec_atG {f : Addr} {name qual : Str} {params : Arguments} {body : List Stmt} {scope : Scope} {cl : List (Str × Addr)} {dV kV doc pm cdv ct oc : Value} {an od : Option Addr} {osl : Array (Option Value)} {vals : List Value} {binds : List (Str × Value)} {h : Heap} {g : Array GenState} {d : Drawn} {tk : Nat} {os : OsState}
    {Q : Value → Shared → Prop} {E : Value → Shared → Prop} (Res : Value → List (Addr × Obj) → Prop)
    (F : Fr B L h m) (N : News B L h news) (X : (KK w.params).In B) (T : Top₁ mean mg mb B)
    (hf : (KK w.params).lookup f = some ⟨oc, od, .func (fnX name qual params body scope cl dV kV doc pm an cdv ct), osl⟩) (hc : codeIn (KK w.params) cdv qual = true) (hroom : A.depth < recursionLimit)
    (hbind : BindsTo ⟨h, g, d, tk, os⟩ (fnX name qual params body scope cl dV kV doc pm an cdv ct) ⟨vals, []⟩ binds) (hloc : ∀ x ∈ binds, scope.names.lookup x.1 = some .local)
    (hbody : ∀ L' h₁ fo (Q' : Flow → Shared → Prop), L < L' → Fr B L' h₁ (fun x => binds.reverse.lookup x) → News B L' h₁ ((L, fo) :: news) →
      (∀ fl h' g' tk' m' news', Res (outOf fl) news' → AllBare g' → Fr B L' h' m' → News B L' h' ((L, fo) :: news') → (∀ p ∈ news', p.1 ≠ L) → Q' fl ⟨h', g', d, tk', os⟩) →
      _root_.PySem.wpAt (M₁ w) (A.deeper (envX qual scope L' f cdv cl)) (.func body (envX qual scope L' f cdv cl)) (execs body (envX qual scope L' f cdv cl)) Q' (fun _ _ => False) ⟨h₁, g, d, tk + binds.length, os⟩)
    (hQ : ∀ v h' g' tk' news', Res v news' → AllBare g' → Fr B L h' m → News B L h' news' → Q v ⟨h', g', d, tk', os⟩)
    (hco : scope.isCoroutine = false := by rfl) (hgen : scope.isGenerator = false := by rfl) (hk : scope.kind = .function := by rfl) (hcell : ∀ x ∈ scope.names, x.2 ≠ .cell := by decide) :
    wpAny (M₁ w) A (call (.ref f) vals) Q E ⟨h, g, d, tk, os⟩ := by
  have X' : (KK w.params).In h := X.keeps F.keep
  obtain ⟨fo, hfo⟩ := frame_at F
  refine wpAny_call (ks_codeAny_call_defAt (fd := fnX name qual params body scope cl dV kV doc pm an cdv ct) (body := body) (binds := binds) hroom (X' _ _ hf) rfl (T.nolimit.keeps F.keep) (codeRec_of X' hc) rfl hbind hcell hloc (fun h₁ hns hk₁ => ?_) hco hgen hk)
  have F₁ : Fr B h.objs.size h₁ (fun x => binds.reverse.lookup x) := ⟨hns, fun b o e => hk₁ _ _ (F.keep _ _ e), frame_size F⟩
  have N₁ : News B h.objs.size h₁ ((L, fo) :: news) := by
    intro p hp
    rcases List.mem_cons.mp hp with rfl | hp
    · exact ⟨hk₁ _ _ hfo, Nat.ne_of_lt (Heap.lt_size hfo), get_none_of_size F.above⟩
    · obtain ⟨a, b, c⟩ := N p hp
      exact ⟨hk₁ _ _ a, Nat.ne_of_lt (Heap.lt_size a), c⟩
  refine ks_wpAt_mono (hbody h.objs.size h₁ fo _ (Heap.lt_size hfo) F₁ N₁ ?_) (fun _ _ z => z) (fun _ _ z => z.elim)
  intro fl h' g' tk' m' news' hr hb F'' N'' hne
  have hL := (N'' _ (.head _)).1
  obtain ⟨o, es, ep, ho, r⟩ := F.ns
  obtain rfl : o = fo := Option.some.inj (ho.symm.trans hfo)
  exact hQ (outOf fl) h' g' tk' news' hr hb ⟨⟨o, es, ep, hL, r⟩, F''.keep, F.above⟩ fun p hp => ⟨(N'' _ (.tail _ hp)).1, hne p hp, (N'' _ (.tail _ hp)).2.2⟩
end
theorem filledCls11b (P : Params) : PySem.Challenge.rw_wr0051_01 = PySem.Challenge.rw_wr0051_01 ∧ KK P = KK P := by k_fill; exact ⟨rfl, rfl⟩
noncomputable abbrev tabO (ps : Array Value) : Obj := ⟨.none, none, .fields ps, #[]⟩
noncomputable abbrev pairO (a b : Value) : Obj := ⟨.type "tuple", none, .seq #[a, b] 0, #[]⟩
/-- a code table: empty, or with the one genexp's code in it -/
noncomputable def TabOk (pos : Pos) (ps : Array Value) : Prop := ps = #[] ∨ ∃ c', ps = #[rawInt pos.line, rawInt pos.col, .ref c']
noncomputable def CodeAt (K : Frag) (c P : Addr) : Prop := ∃ od vs file tf flags tg inF text tt sl, K.lookup c = some ⟨.type "code", od, .fields vs, sl⟩ ∧ vs[11]? = some (.ref P) ∧ vs.getD 11 .none = .ref P ∧ vs.getD 18 .none = .str file tf ∧ vs.getD 7 .none = .int flags tg ∧ vs.getD 9 .none = .bool inF ∧ vs.getD 10 .none = .int text tt
theorem codeAmong_one (pos : Pos) (c : Value) : codeAmong pos [rawInt pos.line, rawInt pos.col, c] = some c :=
  codeAmong_snoc (pos := pos) (c := c) [] trivial rfl
theorem genCode {M : Model} {A : Around} {E : Value → Shared → Prop} {s : Shared} {K : Frag} {env : Env} {c P : Addr} {ps : Array Value} {pos : Pos} {q : Str} {scope : Scope} {Q : Value → Shared → Prop} (X : K.In s.heap) (hc : env.code = .ref c) (hcd : CodeAt K c P) (hP : s.heap.get? P = some (tabO ps)) (hcP : c ≠ P) (hps : TabOk pos ps)
    (hQ : ∀ c' ps' h' tk', TabOk pos ps' → (∀ b o, b ≠ P → s.heap.get? b = some o → h'.get? b = some o) → h'.get? P = some (tabO ps') → s.heap.objs.size ≤ h'.objs.size → Q (.ref c') { s with heap := h', toks := tk' }) : wpAny M A (genexprCode env pos q scope) Q E s := by
  obtain ⟨od, vs, file, tf, flags, tg, inF, text, tt, sl, k0, k1, k2, k3, k4, k5, k6⟩ := hcd
  have hco := X c _ k0
  have htr : TriplesOk ps.toList := by
    rcases hps with rfl | ⟨c', rfl⟩ <;> exact trivial
  have hok : s.heap.IsCode c P ps := ⟨_, vs, file, tf, flags, tg, inF, text, tt, _, hco, rfl, k2, k3, k4, k5, k6, hP, rfl, htr, hcP⟩
  have htab : s.heap.TableAt c P ps := ⟨⟨_, vs, hco, rfl, rfl, k1⟩, hP⟩
  rcases hps with rfl | ⟨c', rfl⟩
  · refine wpAny_genexprCodeX hc hok htab rfl ?_
    intro c' h' tk hx hge hlt _ _ ht' _
    refine hQ c' _ h' tk (.inr ⟨c', rfl⟩) (fun b o hb e => hx b o hb e) ?_ (Nat.le_trans hge (Nat.le_of_lt hlt))
    exact ht'.2
  · refine wpAny_genexprCode_hit hc hok (codeAmong_one pos (.ref c')) ?_
    exact hQ c' _ s.heap s.toks (.inr ⟨c', rfl⟩) (fun _ _ _ e => e) hP (Nat.le_refl _)
theorem news_at {B h h' : Heap} {L P : Addr} {news news' : List (Addr × Obj)} {o o' : Obj} (N : News B L h news) (U : Upd P o o' news news') (hk : ∀ b o, b ≠ P → h.get? b = some o → h'.get? b = some o) (hP : h'.get? P = some o') : News B L h' news' := by
  obtain ⟨pre, post, rfl, rfl, a, b⟩ := U.split
  intro p hp
  rcases List.mem_append.mp hp with hm | hm
  · have z := N p (List.mem_append.mpr (.inl hm)); exact ⟨hk _ _ (a p hm) z.1, z.2⟩
  rcases List.mem_cons.mp hm with rfl | hm
  · have z := N (P, o) (List.mem_append.mpr (.inr (.head _))); exact ⟨hP, z.2⟩
  · have z := N p (List.mem_append.mpr (.inr (.tail _ hm))); exact ⟨hk _ _ (b p hm) z.1, z.2⟩
theorem walksS_mono {prog : Program} {w : World} {A : Around} {I : Addr} {fp wr : List Addr} {G : Array GenState → Array GenState → Prop} {n : Nat} {P P' : Nat → Value → Prop} {St : Nat → Shared → Prop} (W : WalksS prog w A I fp wr G n P St) (hP : ∀ i v, i < n → P i v → P' i v) : WalksS prog w A I fp wr G n P' St :=
  ⟨W.sub, W.grefl, W.gtrans, W.frame, fun i s Q E hi st hQ => W.item i s Q E hi st fun v s' h st' hm => hQ v s' (hP i v hi h) st' hm, W.done, W.self⟩
/-- a generator over the pile's pairs is made -/
theorem gen_pile {w : World} {mean : ExcName → Option Value} {mg mb : Str → Option Value} {B : Heap} (T : Top₁ mean mg mb B) (X : (KK w.params).In B)
    {A : Around} {L : Addr} {h : Heap} {g : Array GenState} {d : Drawn} {tk : Nat} {os : OsState} {news : List (Addr × Obj)} {gn : Array Value → List (Addr × Obj)} {m : Str → Option Value} {x dx c P : Addr} {items ps : Array Value} {n : Nat} {od : Obj}
    {env : Env} {elt iter : Expr} {xa xb : Str} {pa pb pt pos : Pos} {kt : Nat} {scope : Scope} {Ts : Nat → Addr} {va vb : Nat → Value} {Fv : Nat → Value → Prop} {Q E : Value → Shared → Prop}
    (F : Fr B L h m) (N : News B L h news) (hg : AllBare g) (h1 : (x, pileO dx items n) ∈ news) (h2 : (dx, od) ∈ news) (h3 : (P, tabO ps) ∈ news) (U : ∀ ps', Upd P (tabO ps) (tabO ps') news (gn ps')) (hps : TabOk pos ps)
    (hT : ∀ j, j < items.size → items[j]? = some (.ref (Ts j)) ∧ (Ts j, pairO (va j) (vb j)) ∈ news)
    (hcode : env.code = .ref c) (hcd : CodeAt (KK w.params) c P) (hgl : env.globals = mainGlobals)
    (hh : A.handled = none) (hroom : A.depth < recursionLimit)
    (hiter : ∀ Q : Value → Shared → Prop, Q (.ref x) ⟨h, g, d, tk, os⟩ → wpAny (M₁ w) A (eval iter env) Q E ⟨h, g, d, tk, os⟩)
    (helt : ∀ (A' : Around) E' i C code (s₂ : Shared) m₂, A'.handled = none → i < items.size → Fr B C s₂.heap m₂ → m₂ xa = some (va i) → m₂ xb = some (vb i) → wpAny (M₁ w) A' (eval elt (genEnv scope [] C code builtinsNs env)) (fun y s₃ => Fv i y ∧ Keeps s₂ s₃) E' s₂)
    (hQ : ∀ a h' g' tk' ps' fp wr gi St, WalksS PySem.Challenge.rw_wr0051_01.row.prog w A.in4 a fp wr (GenOnlyQ gi) items.size (fun i y => i < items.size ∧ Fv i y) St → St 0 ⟨h', g', d, tk', os⟩ → (∀ i s', St i s' → s'.TypeIs (.ref a) "generator") → a ∈ fp → (∀ b ∈ fp, b < h'.objs.size) → (∀ b ∈ wr, h.objs.size ≤ b) →
      TabOk pos ps' → AllBare g' → Fr B L h' m → News B L h' (gn ps') → Q (.ref a) ⟨h', g', d, tk', os⟩)
    (hclos : closureFor scope env = pure []) (hcell : ∀ y ∈ scope.names, y.2 ≠ .cell) (h0 : scope.names.lookup (".0" : Str) = some NameKind.local) (hxa : scope.names.lookup xa = some .local) (hxb : scope.names.lookup xb = some .local) (hab : xa ≠ xb)
    (hco : scope.isCoroutine = false := by rfl) (hkind : scope.kind = .function := by rfl) (hs : ∀ x, genFold iter env x = pure x := by intro _; rfl) :
    wpAny (M₁ w) A (eval (.GeneratorExp elt [⟨.Tuple [.Name xa pa, .Name xb pb] kt pt, iter, [], 0⟩] scope pos) env) Q E ⟨h, g, d, tk, os⟩ := by
  refine wpAny_GeneratorExp_walksQT hh hco hclos hcell h0 hxa hxb hab hkind hroom (hiter _ ?_) hs
  refine pyIter_pile (X.keeps F.keep) (inst_pile N h1 h2) ?_
  have F₁ := F.push { cls := .type "list_iterator", data := .fields #[.ref x, .int 0 0] }
  have N₁ := N.push F { cls := .type "list_iterator", data := .fields #[.ref x, .int 0 0] }
  refine ⟨T.nolimit.keeps F₁.keep, ?_⟩
  have hcP : c ≠ P := by
    obtain ⟨_, vs, _, _, _, _, _, _, _, _, k0, _⟩ := hcd
    rintro rfl
    have e1 := X.keeps F.keep _ _ k0
    rw [(N _ h3).1] at e1
    cases e1
  refine genCode (X.keeps F₁.keep) hcode hcd (N₁ _ (.tail _ h3)).1 hcP hps ?_
  intro c' ps' h₃ tk₃ hps' hk₃ hP₃ hsz₃
  have hLP : P ≠ L := (N _ h3).2.1
  have hBP : B.get? P = none := (N _ h3).2.2
  have F₃ : Fr B L h₃ m := ⟨F₁.ns.at' fun o e => hk₃ _ o (Ne.symm hLP) e, fun b o e => hk₃ b o (fun z => by rw [z, hBP] at e; cases e) (F₁.keep b o e), F₁.above⟩
  have hPI : P < h.objs.size := Heap.lt_size (N _ h3).1
  have N₃ : News B L h₃ ((h.objs.size, { cls := .type "list_iterator", data := .fields #[.ref x, .int 0 0] }) :: gn ps') := news_at N₁ (.tail (Nat.ne_of_gt hPI) (U ps')) hk₃ hP₃
  obtain ⟨bm, ob, b1, b2, b3, b4, b5, b6⟩ := T.bmain
  rw [hgl]
  refine wpAny_builtinsFor (T.g.keeps F₃.keep) b1 b2 (F₃.keep _ _ b3) b4 b5 b6 ?_
  have hsz₁ : (h.push { cls := .type "list_iterator", data := .fields #[.ref x, .int 0 0] }).objs.size = h.objs.size + 1 := Heap.size_push ..
  have hI₃ : h.objs.size < h₃.objs.size := by
    have : (h.push { cls := .type "list_iterator", data := .fields #[.ref x, .int 0 0] }).objs.size ≤ h₃.objs.size := hsz₃
    omega
  have hmem : ∀ p ∈ news, p.1 < h.objs.size := fun p hp => Heap.lt_size (N p hp).1
  have xne : x ≠ P := by
    rintro rfl
    have e1 := (N _ h1).1
    rw [(N _ h3).1] at e1
    cases e1
  have tne : ∀ j, j < items.size → Ts j ≠ P := by
    intro j hj z
    have e1 := (N _ (hT j hj).2).1
    rw [z, (N _ h3).1] at e1
    cases e1
  have pass : passing (fun _ => true) items.size 0 = List.range items.size := by unfold passing; simp
  refine ⟨h.objs.size, _, [h.objs.size], items.size, _, _, _, fun _ => true, Fv, rfl, fun A' hA => (walks_pairs hA h.objs.size x (Nat.ne_of_lt (hmem _ h1)) items Ts (fun j => #[va j, vb j]) (fun j hj => (hT j hj).1) (fun j hj => Nat.ne_of_lt (hmem _ (hT j hj).2))).bound, ?_, ?_, ?_, T.nolimit.keeps F₃.keep, ?_, ?_, ?_⟩
  · rintro i vals ⟨_, rfl⟩; exact ⟨_, _, rfl⟩
  · refine ⟨⟨_, (N₃ _ (.head _)).1, rfl, rfl⟩, ⟨pileO dx items n, n, hk₃ _ _ xne (N₁ _ (.tail _ h1)).1, rfl⟩, fun k hk => ⟨_, hk₃ _ _ (tne k hk) (N₁ _ (.tail _ (hT k hk).2)).1, rfl, _, rfl⟩⟩
  · intro b hb
    show b < h₃.objs.size
    rcases List.mem_cons.mp hb with rfl | hb
    · exact hI₃
    rcases List.mem_cons.mp hb with rfl | hb
    · exact Nat.lt_trans (hmem _ h1) hI₃
    · obtain ⟨j, hj, rfl⟩ := List.mem_map.mp hb
      exact Nat.lt_trans (hmem _ (hT j (List.mem_range.mp hj)).2) hI₃
  · intro hm
    have e := List.mem_singleton.mp hm
    obtain ⟨mc, hns, _⟩ := T.nolimit
    have : cStatics < h.objs.size := (hns.keeps F.keep).lt
    exact absurd e (Nat.ne_of_lt this)
  · intro href hhref
    refine ⟨?_, ?_⟩
    · intro A' E' i v1 v2 s₂ m₂ _ _ _ _ _ _
      exact wpAny_pure ⟨rfl, s₂.heap, s₂.toks, rfl, fun _ _ e => e⟩
    · rintro A' E' i v1 v2 s₂ m₂ hA ⟨hi, hv⟩ _ hns ha hb hkp
      obtain ⟨rfl, rfl⟩ : v1 = va i ∧ v2 = vb i := by
        have := congrArg Array.toList hv; simpa using this
      refine helt A' E' i _ _ s₂ m₂ hA hi ⟨hns, fun b o e => ?_, ?_⟩ ha hb
      · have e' := F₃.keep b o e
        refine hkp b (List.mem_range.mpr (Heap.lt_size e')) (fun z => ?_) o (hhref b o e')
        rw [List.mem_singleton.mp z] at e
        exact absurd (Heap.lt_size e) (Nat.not_lt.mpr (frame_size F))
      · show B.objs.size ≤ h₃.objs.size
        exact frame_size F₃
  · intro a h₅ tk₅ gs hgb hag hsz₅ hk₅ W hat
    dsimp only at *
    rw [pass] at W
    have F₅ : Fr B L h₅ m := ⟨F₃.ns.at' fun o e => hk₅ _ o e, fun b o e => hk₅ b o (F₃.keep b o e), F₃.above⟩
    rw [List.length_range] at W
    have W' := walksS_mono (P' := fun i y => i < items.size ∧ Fv i y) W (fun i v hi ⟨i', hi', hF⟩ => by
      have : i' = i := by
        rw [List.getElem?_range hi] at hi'; exact (Option.some.inj hi').symm
      subst this
      exact ⟨hi, hF⟩)
    refine hQ a h₅ _ _ ps' _ _ _ _ W' hat (fun i s' st => st.1.typeIs) (List.mem_cons_self) ?_ ?_ hps' (hg.push hgb) F₅ (fun p hp => ?_)
    · intro b hb
      show b < h₅.objs.size
      rw [hsz₅]
      rcases List.mem_cons.mp hb with rfl | hb
      · exact Nat.lt_succ_self _
      · rcases List.mem_cons.mp hb with rfl | hb
        · exact Nat.lt_succ_of_lt hag
        · exact Nat.lt_succ_of_lt (Nat.lt_trans (List.mem_range.mp hb) hag)
    · intro b hb
      rcases List.mem_cons.mp hb with rfl | hb
      · exact Nat.le_of_lt hI₃
      · rw [List.mem_singleton.mp hb]; exact Nat.le_refl _
    · have z := N₃ p (.tail _ hp)
      exact ⟨hk₅ _ _ z.1, z.2⟩
end Mine
set_option maxRecDepth 100000
set_option maxHeartbeats 4000000
namespace Mine
open PySem PySem.W PySem.Calls PyProof.Rows
theorem args_sum2 (a b : Value) : argsOk "sum" ⟨[a, b], []⟩ := by unfold argsOk; kernel_rfl
/-- the places one further on, the first one not met -/
theorem walksS_shift {prog : Program} {w : World} {A : Around} {I : Addr} {fp wr : List Addr} {G : Array GenState → Array GenState → Prop} {n : Nat} {P : Nat → Value → Prop} {St : Nat → Shared → Prop} (W : WalksS prog w A I fp wr G n P St) :
    WalksS prog w A I fp wr G (n + 1) (fun i v => ∃ j, i = j + 1 ∧ P j v) (fun i s => ∃ j, i = j + 1 ∧ St j s) where
  sub := W.sub
  grefl := W.grefl
  gtrans := W.gtrans
  frame := fun i s h' tk ⟨j, e, st⟩ htk hk => ⟨j, e, W.frame j s h' tk st htk hk⟩
  item := fun i s Q E hi ⟨j, e, st⟩ hQ => by
    subst e
    exact W.item j s Q E (by omega) st fun v s' hP st' hm => hQ v s' ⟨j, rfl, hP⟩ ⟨j + 1, rfl, st'⟩ hm
  done := fun s Q E ⟨j, e, st⟩ hQ => by
    obtain rfl : n = j := by omega
    exact W.done s Q E st hQ
  self := fun i s Q E ⟨j, e, st⟩ hQ => W.self j s Q E st hQ
noncomputable def sumOf (val : Nat → Int) (first : Int) : Nat → Int | 0 => first | n + 1 => sumOf val first n + val n
theorem preSum_shift (val : Nat → Int) (first : Int) : ∀ n, preSum (fun i => match i with | 0 => first | j + 1 => val j) (n + 1) = sumOf val first n
  | 0 => by simp [preSum, sumOf]
  | n + 1 => by rw [preSum, preSum_shift val first n]; rfl
section
variable {prog : Program} {w : World} {A : Around} {E : Value → Shared → Prop} {s : Shared} {I : Addr} {fp wr : List Addr} {gi n : Nat} {P : Nat → Value → Prop} {St : Nat → Shared → Prop} {val : Nat → Int} {first : Int} {t : Tok} {Q : Value → Shared → Prop}
theorem call_sum2 (W : WalksS prog w A.in1 I fp wr (GenOnlyQ gi) n P St) (hst : St 0 s) (hfp : ∀ b ∈ fp, b < s.heap.objs.size) (hval : ∀ i v, P i v → ∃ t, v = .int (val i) t)
    (hQ : ∀ s' t', Moved wr (GenOnlyQ gi) s s' → Q (.int (sumOf val first n) t') s') : wpAny (model prog w) A (call (.builtin "sum") [.ref I, .int first t]) Q E s := by
  refine call_function_tree F.kind_sum F.plain_sum F.entry_sum (args_sum2 _ _) ?_
  unfold Builtin.«sum»
  simp only [List.length_cons, List.length_nil]
  rw [if_neg (by decide)]
  refine wpAny_bind (wpAny_of_eq (show Builtin.Builtins.bindParams "sum" ["start"] 0 ⟨[.int first t], []⟩ = pure [some (.int first t)] from rfl) ?_)
  refine wpAny_bind (W.self 0 s _ _ hst ?_)
  have goOn : ∀ (s₂ : Shared) (t0 : Tok) (st : Int), (st = 0 ∨ st = 2) → s₂.heap = s.heap → s₂.gens = s.gens → s₂.drawn = s.drawn → s₂.os = s.os → s.toks ≤ s₂.toks → wpAny (model prog w) A.in1 (forIn [("str", "strings", "''"), ("bytes", "bytes", "b''"), ("bytearray", "bytearray", "b''")] PUnit.unit (fun (x : String × String × String) (__s : PUnit) => do
            let __do_lift ← isInstance (Value.int first t0) (Value.type x.fst)
            if __do_lift = true then do
                rule "sum.start-refused"
                raiseErrorMade "TypeError"
                    (toString "sum() can't sum " ++ toString x.2.fst ++ toString " [use " ++ toString x.2.snd ++
                      toString ".join(seq) instead]")
                pure (ForInStep.yield PUnit.unit)
              else pure (ForInStep.yield PUnit.unit)) >>= fun _ => newList [Value.int first t0] >>= fun l => again (Code.builtin "sum.loop" { pos := [Value.ref I, l, rawInt st, rawInt 0] }))
      (fun fin s' => match fin with
        | .done f => (match (Except.ok f : Result) with | .ok (.ret v) => Q v s' | .ok _ => False | .error e => E e s')
        | .again c' => c'.quiet = true ∧ codeAny (model prog w) A c' (fun r s' => match r with | .ok (.ret v) => Q v s' | .ok _ => False | .error e => E e s') s') E s₂ := by
    intro s₂ t0 st hst2 eh eg ed eo et
    obtain ⟨hp, gn, dr, tk, os⟩ := s
    obtain ⟨hp2, gn2, dr2, tk2, os2⟩ := s₂
    dsimp only at eh eg ed eo et hst hfp hQ ⊢
    subst eh eg ed eo
    simp only [List.forIn_cons, List.forIn_nil]
    refine wpAny_bind (wpAny_bind (wpAny_bind (wpAny_isInstance (T := "int") (b := false) (typeIs_int _ _ _) PySem.sub_int_str ?_)))
    simp only [Bool.false_eq_true, if_false]
    refine wpAny_pure (wpAny_bind (wpAny_bind (wpAny_isInstance (T := "int") (b := false) (typeIs_int _ _ _) PySem.sub_int_bytes ?_)))
    simp only [Bool.false_eq_true, if_false]
    refine wpAny_pure (wpAny_bind (wpAny_bind (wpAny_isInstance (T := "int") (b := false) (typeIs_int _ _ _) PySem.sub_int_bytearray ?_)))
    simp only [Bool.false_eq_true, if_false]
    refine wpAny_pure (wpAny_pure ?_)
    refine wpAny_bind (wpAny_newObj_type ?_)
    have hSf : hp2.objs.size ∉ fp := fun hm => Nat.lt_irrefl _ (hfp _ hm)
    have W' := walksS_shift W
    have e0 : preSum (fun i => match i with | 0 => first | j + 1 => val j) 1 = first := by simp [preSum]
    refine wpAny_pure ⟨plainId_quiet F.plain_sum_loop _, codeAny_sum_loopAnyS W' (fun i => match i with | 0 => first | j + 1 => val j) ?_ hp2.objs.size hSf n 1 _ t0 0 st hst2 (by omega) (by omega)
      (W'.frame 1 ⟨hp2, gn2, dr2, tk, os2⟩ _ _ ⟨0, rfl, hst⟩ et (fun b _ o e => Heap.get?_push_of_some _ e)) ?_ fun s' t' hm => ?_⟩
    · rintro i v ⟨j, rfl, hP⟩
      exact hval j v hP
    · rw [e0]
      exact Heap.get?_push_size _ rfl
    · rw [preSum_shift]
      refine hQ s' t' ?_
      obtain ⟨m1, m2, m3, m4, m5⟩ := hm
      refine ⟨fun b o hb e => m1 b o (fun z => ?_) (Heap.get?_push_of_some _ e), ?_, ?_, ?_, ?_⟩
      · rcases List.mem_cons.mp z with rfl | z
        · exact Nat.lt_irrefl _ (Heap.lt_size e)
        · exact hb z
      · exact m2
      · exact m3
      · exact m4
      · exact Nat.le_trans et m5
  dsimp only
  split
  · refine wpAny_bind (wpAny_rule (wpAny_bind (wpAny_mkInt (wpAny_bind (wpAny_pure ?_)))))
    exact goOn _ _ 0 (.inl rfl) rfl rfl rfl rfl (Nat.le_succ _)
  · refine wpAny_bind (wpAny_pure ?_)
    exact goOn _ _ 2 (.inr rfl) rfl rfl rfl rfl (Nat.le_refl _)
end
end Mine
set_option maxRecDepth 100000
set_option maxHeartbeats 1000000
namespace Mine
open PySem PySem.W PySem.Calls PyProof.Rows
section
variable {w : World} {mean : ExcName → Option Value} {mg mb : Str → Option Value} {B : Heap} {A : Around} {E : Value → Shared → Prop} {s : Shared} {C : Addr} {m : Str → Option Value} {env : Env} {x : Str} {pos : Pos} {v : Value} {Q : Value → Shared → Prop}
/-- what a generator's own frame is to know -/
structure GenFrame (env : Env) (C : Addr) : Prop where
  kind : env.scope.kind = .function
  locals : env.locals = C
  globals : env.globals = mainGlobals
  builtins : env.builtins = builtinsNs
theorem gn_local (G : GenFrame env C) (F : Fr B C s.heap m) (hl : env.kindOf x = some .local) (hv : m x = some v) (hd : (x == ("__debug__" : Str)) = false) (h : Q v s) : wpAny (M₁ w) A (eval (.Name x pos) env) Q E s :=
  wpAny_Name (wpAny_loadName_local G.kind hl (by rw [G.locals]; exact F.ns) hv h) hd
theorem gn_builtin (G : GenFrame env C) (T : Top₁ mean mg mb B) (X : (KK w.params).In B) (F : Fr B C s.heap m) (hl : env.kindOf x = some .globalImplicit) (e : nsIn (KK w.params) mainGlobals x = some none) (hv : bootBuiltins x = some v) (hn : x ≠ "__name__") (hd : (x == ("__debug__" : Str)) = false) (h : Q v s) : wpAny (M₁ w) A (eval (.Name x pos) env) Q E s :=
  Name_function_global G.kind hl (loadGlobal_builtin (env := env) (by rw [G.globals]; exact T.g.keeps F.keep) (mg_none_of X T.g e) (by rw [G.builtins]; exact T.b.keeps F.keep) ((T.builtins x hn).trans hv) h) hd
theorem gn_global (G : GenFrame env C) (T : Top₁ mean mg mb B) (X : (KK w.params).In B) (F : Fr B C s.heap m) (hl : env.kindOf x = some .globalImplicit) (e : nsIn (KK w.params) mainGlobals x = some (some v)) (hd : (x == ("__debug__" : Str)) = false) (h : Q v s) : wpAny (M₁ w) A (eval (.Name x pos) env) Q E s :=
  Name_function_global G.kind hl (loadGlobal_global (env := env) (by rw [G.globals]; exact T.g.keeps F.keep) (mg_of X T.g e) h) hd
end
theorem filledCls11d0 (P : Params) : PySem.Challenge.rw_wr0051_01 = PySem.Challenge.rw_wr0051_01 ∧ KK P = KK P := by k_fill; exact ⟨rfl, rfl⟩
theorem len_elt {w : World} {mean : ExcName → Option Value} {mg mb : Str → Option Value} {B : Heap} (T : Top₁ mean mg mb B) (X : (KK w.params).In B)
    {A' : Around} {E' : Value → Shared → Prop} {C : Addr} {s₂ : Shared} {m₂ : Str → Option Value} {env : Env} {a b : Str} {ta tb : Tok} {p1 p2 p3 p4 p5 p6 p7 : Pos} (hA : A'.handled = none) (F₂ : Fr B C s₂.heap m₂) (ha : m₂ (Str.ofString "fws") = some (.str a ta)) (hb : m₂ (Str.ofString "part") = some (.str b tb))
    (G : GenFrame env C) (k1 : env.kindOf (Str.ofString "len") = some .globalImplicit) (k2 : env.kindOf (Str.ofString "fws") = some .local) (k3 : env.kindOf (Str.ofString "part") = some .local) (hla : a.length ≤ 1000) (hlb : b.length ≤ 1000) :
    wpAny (M₁ w) A' (eval (Expr.BinOp (.Call (.Name (Str.ofString "len") p1) [.Name (Str.ofString "fws") p2] [] p3) Operator.Add (.Call (.Name (Str.ofString "len") p4) [.Name (Str.ofString "part") p5] [] p6) p7) env) (fun y s₃ => (∃ t, y = .int (a.length + b.length) t) ∧ Keeps s₂ s₃) E' s₂ := by
  obtain ⟨ah', ad', af', ag', au'⟩ := A'
  obtain rfl : ah' = none := hA
  obtain ⟨hp₂, g₂, d₂, tk₂, os₂⟩ := s₂
  have N₂ : News B C hp₂ [] := News.nil
  dsimp only at *
  repeat' (first | ((with_reducible show wpAny _ _ (eval (.Name (Str.ofString "len") _) _) _ _ _); refine gn_builtin G T X F₂ k1 (by kernel_rfl) (v := .builtin "len") (by boot_by_name) (by decide) (by decide) ?_) | ((with_reducible show wpAny _ _ (eval (.Name (Str.ofString "fws") _) _) _ _ _); refine gn_local G F₂ k2 ha (by decide) ?_) | ((with_reducible show wpAny _ _ (eval (.Name (Str.ofString "part") _) _) _ _ _); refine gn_local G F₂ k3 hb (by decide) ?_) | (k_unfold; (try dsimp only)) | (walk1; (try dsimp only)) | (dsimp only; walk1))
  exact ⟨_, _, rfl, fun _ _ e => e⟩
end Mine
set_option maxRecDepth 100000
set_option maxHeartbeats 2000000
namespace Mine
open PySem PySem.W PySem.Calls PyProof.Rows
theorem slot_lga : Slot "list" "__getattribute__" "list.__getattribute__" := .of (owner := "list") (n := "__getattribute__") (by rw [typeLookup_type, builtinLookup_eq_fast]; kernel_rfl) (by decide +kernel) (by decide +kernel) (by decide +kernel) (by decide +kernel) (by first | rfl | kernel_rfl)
theorem entry_lga : entryFor table "list.__getattribute__" = some Builtin.«object.__getattribute__» :=
  entryFor_alias (id' := "object.__getattribute__") (by rw [fastTable_eq_tree]; kernel_rfl) (by decide +kernel) (by decide +kernel) (by rw [fastTable_eq_tree]; kernel_rfl)
theorem args_lga (a b : Value) : argsOk "list.__getattribute__" ⟨[a, b], []⟩ := by unfold argsOk; kernel_rfl
theorem pile_first {w : World} {A : Around} {E : Value → Shared → Prop} {s : Shared} {x dx : Addr} {items : Array Value} {c : Nat} {od : Obj} {first : Value} {expr : Bool} {Q : Value → Shared → Prop} (X : (KK w.params).In s.heap) (I : PySem.W.InstAt s.heap x (pileO dx items c) 172 (some od)) (O : Own od first) (hfirst : handedIn first = true)
    (h : Q first { s with toks := s.toks + 1 }) : wpAny (M₁ w) A (getAttr (.ref x) (Str.ofString "_initial_size") expr) Q E s := by
  obtain ⟨hh, g, d, t, os⟩ := s
  have L0 := I.type (M := M₁ w)
  have hga : findIn (KK w.params) (.ref 172) "__getattribute__" = some (some (.builtin "list.__getattribute__")) := by kernel_rfl
  have hk : findIn (KK w.params) (.ref 172) "__getattr__" = some none := by kernel_rfl
  have L1 := looks_findIn (M := M₁ w) X hga
  have L2 := looks_findIn (M := M₁ w) X hk
  have hf : findObj (KK w.params) 172 (some od) (Str.ofString "_initial_size") = some (.value first) :=
    findObj_own (attr := none) (by rfl) (by kernel_rfl) (by rfl) O.size
  have L3 := looks_find (M := M₁ w) X I hf
  unfold getAttr getAttrBy
  refine wpAny_bind (wpAny_mkText (wpAny_holding (wpAny_bind (L0.at (wpAny_bind (L1.at ?_))))))
  show wpAny _ _ (getAttrByItsOwn _ _ _ _ _ _) _ _ _
  unfold getAttrByItsOwn hookBefore
  refine wpAny_bind (L2.at ?_)
  refine wpAny_bind (wpAny_attempt (wpAny_holding ?_))
  have hcall : ∀ Q : Value → Shared → Prop, ∀ E, Q first ⟨hh, g, d, t + 1, os⟩ → wpAny (M₁ w) A (callGetattribute (.ref x) (.str (Str.ofString "_initial_size") t) (.builtin "list.__getattribute__") expr) Q E ⟨hh, g, d, t + 1, os⟩ := by
    intro Q E hq
    unfold callGetattribute
    rw [if_neg (by cases expr <;> exact Bool.false_ne_true)]
    unfold boundAndCalled
    refine wpAny_bind (wpAny_of_eq (slot_lga.bind _) ?_)
    refine call_sub X I (by rfl) (n := "__getattribute__") (by decide +kernel) (by decide +kernel) entry_lga (args_lga _ _) ?_
    unfold Builtin.«object.__getattribute__»
    refine wpAny_bind (wpAny_pure ?_)
    refine wpAny_bind (wpAny_pure ?_)
    refine wpAny_bind (L0.at (wpAny_bind (L3.at ?_)))
    exact wpAny_pure ⟨_, rfl, hq⟩
  refine hcall _ _ ?_
  show wpAny _ _ (handedOut first) _ _ _
  rw [handedOut_of hfirst]; exact wpAny_pure h
end Mine
set_option maxRecDepth 100000
set_option maxHeartbeats 2000000
namespace Mine
open PySem PySem.W PySem.Calls PyProof.Rows
theorem filledCls11d (P : Params) : PySem.Challenge.rw_wr0051_01 = PySem.Challenge.rw_wr0051_01 ∧ KK P = KK P := by k_fill; exact ⟨rfl, rfl⟩
theorem Upd.mem_other {D : Addr} {o o' : Obj} {news news' : List (Addr × Obj)} (U : Upd D o o' news news') {p : Addr × Obj} (hp : p ∈ news) (hne : p.1 ≠ D) : p ∈ news' := by
  obtain ⟨pre, post, rfl, rfl, a, b⟩ := U.split
  rcases List.mem_append.mp hp with h | h
  · exact List.mem_append.mpr (.inl h)
  rcases List.mem_cons.mp h with rfl | h
  · exact absurd rfl hne
  · exact List.mem_append.mpr (.inr (.tail _ h))
theorem Upd.addr_mem {D : Addr} {o o' : Obj} {news news' : List (Addr × Obj)} (U : Upd D o o' news news') {p : Addr × Obj} (hp : p ∈ news') : ∃ q, (p.1, q) ∈ news := by
  obtain ⟨pre, post, rfl, rfl, a, b⟩ := U.split
  rcases List.mem_append.mp hp with h | h
  · exact ⟨p.2, List.mem_append.mpr (.inl h)⟩
  rcases List.mem_cons.mp h with rfl | h
  · exact ⟨o, List.mem_append.mpr (.inr (.head _))⟩
  · exact ⟨p.2, List.mem_append.mpr (.inr (.tail _ h))⟩
theorem spec_len {w : World} {mean : ExcName → Option Value} {mg mb : Str → Option Value} {B : Heap} (T : Top₁ mean mg mb B) (X : (KK w.params).In B)
    {A : Around} {L : Addr} {h : Heap} {g : Array GenState} {d : Drawn} {tk : Nat} {os : OsState} {news : List (Addr × Obj)} {gn : Array Value → List (Addr × Obj)} {m : Str → Option Value} {x dx : Addr} {items ps : Array Value} {c : Nat} {od : Obj} {first : Int} {t1 : Tok} {Ts : Nat → Addr} {sa sb : Nat → Str} {ta tb : Nat → Tok} {Q E : Value → Shared → Prop}
    (F : Fr B L h m) (N : News B L h news) (hg : AllBare g) (h1 : (x, pileO dx items c) ∈ news) (h2 : (dx, od) ∈ news) (O : Own od (.int first t1)) (h3 : (134, tabO ps) ∈ news) (U : ∀ ps', Upd 134 (tabO ps) (tabO ps') news (gn ps')) (hps : TabOk ⟨66, 19, 66, 63⟩ ps)
    (hT : ∀ j, j < items.size → items[j]? = some (.ref (Ts j)) ∧ (Ts j, pairO (.str (sa j) (ta j)) (.str (sb j) (tb j))) ∈ news)
    (hlen : ∀ j, j < items.size → (sa j).length ≤ 1000 ∧ (sb j).length ≤ 1000) (hd : A.depth + 10 < recursionLimit) (hh : A.handled = none)
    (hQ : ∀ h' g' tk' ps' t, TabOk ⟨66, 19, 66, 63⟩ ps' → AllBare g' → Fr B L h' m → News B L h' (gn ps') → Q (.int (sumOf (fun j => (sa j).length + (sb j).length) first items.size) t) ⟨h', g', d, tk', os⟩) :
    wpAny (M₁ w) A (call (.ref 139) [.ref x]) Q E ⟨h, g, d, tk, os⟩ := by
  obtain ⟨ah, ad, af, ag, au⟩ := A
  obtain rfl : ah = none := hh
  refine spec_atG (binds := [(u "self", Value.ref x)]) (fun v news' => ∃ t ps', v = .int (sumOf (fun j => (sa j).length + (sb j).length) first items.size) t ∧ TabOk ⟨66, 19, 66, 63⟩ ps' ∧ news' = gn ps') F N X T (by rfl) (by rfl) (by dsimp only at *; omega) (.of_eq (by rfl)) (locs (by rfl)) ?_ ?_ (by rfl) (by rfl) (by rfl) (by decide)
  · intro L' h₁ fo Q' hlt F' N' hR
    have hL1 : L ≠ 134 := Ne.symm (N _ h3).2.1
    have hLs : L' < h₁.objs.size := F'.ns.lt
    have hBs : ∀ b o, B.get? b = some o → b < h₁.objs.size := fun b o e => Heap.lt_size (F'.keep b o e)
    have hNs : ∀ a, (∃ o, (a, o) ∈ (L, fo) :: news) → a < h₁.objs.size := fun a ⟨o, ho⟩ => Heap.lt_size (N' _ ho).1
    have hx134 : x ≠ 134 := by
      rintro rfl
      have e1 := (N _ h1).1
      rw [(N _ h3).1] at e1
      cases e1
    have hd134 : dx ≠ 134 := by
      rintro rfl
      have e1 := (N _ h2).1
      rw [(N _ h3).1] at e1
      cases e1
      have := O.size
      cases this
    refine at_of_any ?_
    repeat' (first | (k_unfold; (try dsimp only)) | (walk1; (try dsimp only)) | (dsimp only; walk1))
    refine gen_pile (P := 134) (c := 138) (Ts := Ts) (va := fun j => .str (sa j) (ta j)) (vb := fun j => .str (sb j) (tb j)) (Fv := fun i y => ∃ t, y = .int ((sa i).length + (sb i).length) t) T X F' N' hg (.tail _ h1) (.tail _ h2) (.tail _ h3) (fun ps' => .tail hL1 (U ps')) hps (fun j hj => ⟨(hT j hj).1, .tail _ (hT j hj).2⟩) rfl ⟨_, _, _, _, _, _, _, _, _, _, rfl, rfl, rfl, rfl, rfl, rfl, rfl⟩ rfl rfl ?_ ?_ ?_ ?_ (by rfl) (by decide) (by rfl) (by rfl) (by rfl) (by decide)
    · show ad + 1 < _; dsimp only at *; omega
    · intro Q hq
      repeat' (first | (k_unfold; (try dsimp only)) | (walk1; (try dsimp only)) | (dsimp only; walk1))
      exact hq
    · intro A' E' i C code s₂ m₂ hA hi F₂ ha hb
      exact len_elt T X hA F₂ ha hb ⟨rfl, rfl, rfl, rfl⟩ rfl rfl rfl (hlen i hi).1 (hlen i hi).2
    · intro a h₂ g₂ tk₂ ps' fp wr gi St W hst hty hafp hfp hwr hps' hg' F₂ N₂
      clear F' N'
      repeat' (first | (k_unfold; (try dsimp only)) | (walk1; (try dsimp only)) | (dsimp only; walk1))
      refine pile_first (X.keeps F₂.keep) (inst_pile N₂ (.tail _ (Upd.mem_other (U ps') h1 hx134)) (.tail _ (Upd.mem_other (U ps') h2 hd134))) O (by rfl) ?_
      repeat' (first | (k_unfold; (try dsimp only)) | ((fail_if_success (with_reducible show wpAny _ _ (call _ _) _ _ _)); walk1; (try dsimp only)) | (dsimp only; (fail_if_success (with_reducible show wpAny _ _ (call _ _) _ _ _)); walk1))
      refine call_sum2 W.in4_1 (W.frame 0 _ _ _ hst (by dsimp only; omega) (fun _ _ _ e => e)) hfp (val := fun j => (sa j).length + (sb j).length) (fun i v hv => hv.2) ?_
      intro s' t' hm
      obtain ⟨h₃, g₃, d₃, tk₃, os₃⟩ := s'
      obtain ⟨m1, m2, m3, m4, m5⟩ := hm
      dsimp only at m1 m2 m3 m4 m5
      subst m3 m4
      have old : ∀ b o, b < h₁.objs.size → h₂.get? b = some o → h₃.get? b = some o := fun b o hb e => m1 b o (fun z => Nat.not_lt.mpr (hwr b z) hb) e
      refine hR (.ret _) h₃ _ _ _ _ ⟨t', ps', rfl, hps', rfl⟩ (hg'.moved m2) ⟨F₂.ns.at' fun o e => old _ o hLs e, fun b o e => old b o (hBs b o e) (F₂.keep b o e), F₂.above⟩ (fun p hp => ?_) (fun p hp => ?_)
      · have z := N₂ p hp
        exact ⟨old _ _ (hNs p.1 (by
          rcases List.mem_cons.mp hp with rfl | hp
          · exact ⟨_, .head _⟩
          · obtain ⟨o, ho⟩ := Upd.addr_mem (U ps') hp
            exact ⟨o, .tail _ ho⟩)) z.1, z.2⟩
      · obtain ⟨o, ho⟩ := Upd.addr_mem (U ps') hp
        exact (N _ ho).2.1
  · rintro v h' g' tk' n' ⟨t, ps', rfl, hps', rfl⟩ hb F' N'
    exact hQ h' g' tk' ps' t hps' hb F' N'
end Mine
set_option maxRecDepth 100000
set_option maxHeartbeats 1000000
namespace Mine
open PySem PySem.W PySem.Calls PyProof.Rows
theorem join_go : ∀ (r : List (List Nat)) (a : List Nat), List.foldl (fun acc (p : Str) => acc ++ (Str.ofString "").cps ++ p.cps) a.toArray (r.map txt) = (a ++ r.flatten).toArray
  | [], a => by simp
  | b :: r, a => by
    rw [List.map_cons, List.foldl_cons]
    have e : a.toArray ++ (Str.ofString "").cps ++ (txt b).cps = (a ++ b).toArray := by
      show a.toArray ++ #[] ++ b.toArray = _
      simp
    rw [e, join_go r (a ++ b)]
    simp
theorem join_txt (l : List (List Nat)) : Txt.join (Str.ofString "") (l.map txt) = txt l.flatten := by
  unfold Txt.join Builtin.Str.glued
  cases l with
  | nil => rfl
  | cons a r =>
    have := join_go r a
    show Str.mk (List.foldl _ a.toArray (r.map txt)) = _
    rw [this]
    rfl
theorem join_ok {l : List (List Nat)} (h : (l.map List.length).sum + l.length ≤ 1048576) : JoinOk (Str.ofString "") (l.map txt) = true := by
  refine joinOk_of_weight ?_ (by decide)
  rw [List.map_map, List.length_map]
  have : (List.map ((fun x : Str => x.length) ∘ txt) l) = l.map List.length := by
    apply List.map_congr_left; intro a _; exact txt_len a
  rw [this]; exact h
theorem filledCls12a (P : Params) : PySem.Challenge.rw_wr0051_01 = PySem.Challenge.rw_wr0051_01 ∧ KK P = KK P := by k_fill; exact ⟨rfl, rfl⟩
theorem str_elt {w : World} {mean : ExcName → Option Value} {mg mb : Str → Option Value} {B : Heap} (T : Top₁ mean mg mb B) (X : (KK w.params).In B)
    {A' : Around} {E' : Value → Shared → Prop} {C : Addr} {s₂ : Shared} {m₂ : Str → Option Value} {env : Env} {a b : List Nat} {ta tb : Tok} (hA : A'.handled = none) (F₂ : Fr B C s₂.heap m₂) (ha : m₂ (Str.ofString "fws") = some (.str (txt a) ta)) (hb : m₂ (Str.ofString "part") = some (.str (txt b) tb))
    (G : GenFrame env C) (k1 : env.kindOf (Str.ofString "EMPTYSTRING") = some .globalImplicit) (k2 : env.kindOf (Str.ofString "fws") = some .local) (k3 : env.kindOf (Str.ofString "part") = some .local) (hla : a.length ≤ 1000) (hlb : b.length ≤ 1000) :
    wpAny (M₁ w) A' (eval (((Expr.Name (Str.ofString "EMPTYSTRING") { line := 69, col := 33, endLine := 69, endCol := 44 }).Attribute (Str.ofString "join") { line := 69, col := 33, endLine := 69, endCol := 49 }).Call
      [Expr.Tuple [Expr.Name (Str.ofString "fws") { line := 69, col := 51, endLine := 69, endCol := 54 }, Expr.Name (Str.ofString "part") { line := 69, col := 56, endLine := 69, endCol := 60 }] 0 { line := 69, col := 50, endLine := 69, endCol := 61 }] [] { line := 69, col := 33, endLine := 69, endCol := 62 }) env) (fun y s₃ => (∃ t, y = .str (txt (a ++ b)) t) ∧ Keeps s₂ s₃) E' s₂ := by
  obtain ⟨ah', ad', af', ag', au'⟩ := A'
  obtain rfl : ah' = none := hA
  obtain ⟨hp₂, g₂, d₂, tk₂, os₂⟩ := s₂
  have N₂ : News B C hp₂ [] := News.nil
  have hla' : (txt a).length ≤ 1000 := by rw [txt_len]; exact hla
  have hlb' : (txt b).length ≤ 1000 := by rw [txt_len]; exact hlb
  dsimp only at *
  repeat' (first | ((with_reducible show wpAny _ _ (eval (.Name (Str.ofString "EMPTYSTRING") _) _) _ _ _); refine gn_global (v := .str (Str.ofString "") 2240) G T X F₂ k1 (by kernel_rfl) (by decide) ?_) | ((with_reducible show wpAny _ _ (eval (.Name (Str.ofString "fws") _) _) _ _ _); refine gn_local G F₂ k2 ha (by decide) ?_) | ((with_reducible show wpAny _ _ (eval (.Name (Str.ofString "part") _) _) _ _ _); refine gn_local G F₂ k3 hb (by decide) ?_) | (k_unfold; (try dsimp only)) | ((fail_if_success (with_reducible show wpAny _ _ (newTuple _) _ _ _)); walk1; (try dsimp only)) | (dsimp only; (fail_if_success (with_reducible show wpAny _ _ (newTuple _) _ _ _)); walk1))
  refine wpAny_newTuple (items := [Value.str (txt a) ta, Value.str (txt b) tb]) ?_ (show 2 ≤ sizeLine by decide)
  have F₃ := F₂.push { cls := .type "tuple", data := .seq #[Value.str (txt a) ta, Value.str (txt b) tb] }
  have N₃ := N₂.push F₂ { cls := .type "tuple", data := .seq #[Value.str (txt a) ta, Value.str (txt b) tb] }
  have keep : ∀ b' o, hp₂.get? b' = some o → (hp₂.push { cls := .type "tuple", data := .seq #[Value.str (txt a) ta, Value.str (txt b) tb] }).get? b' = some o := fun _ _ e => Heap.get?_push_of_some _ e
  have hT : (hp₂.push { cls := .type "tuple", data := .seq #[Value.str (txt a) ta, Value.str (txt b) tb] }).IsTuple hp₂.objs.size #[Value.str (txt a) ta, Value.str (txt b) tb] := ⟨_, (N₃ _ (.head _)).1, rfl, _, rfl⟩
  dsimp only at *
  generalize hp₂.push { cls := .type "tuple", data := .seq #[Value.str (txt a) ta, Value.str (txt b) tb] } = hp₃ at *
  repeat' (first | (k_unfold; (try dsimp only)) | (walk1; (try dsimp only)) | (dsimp only; walk1))
  all_goals first | exact ⟨_, _, rfl, keep⟩ | skip
  all_goals first | (rw [show [txt a, txt b] = [a, b].map txt from rfl, join_txt]; simp only [List.flatten_cons, List.flatten_nil, List.append_nil]; rfl) | skip
end Mine
set_option maxRecDepth 100000
set_option maxHeartbeats 2000000
namespace Mine
open PySem PySem.W PySem.Calls PyProof.Rows
theorem filledCls12 (P : Params) : PySem.Challenge.rw_wr0051_01 = PySem.Challenge.rw_wr0051_01 ∧ KK P = KK P := by k_fill; exact ⟨rfl, rfl⟩
theorem strs_of {n : Nat} {f : Nat → List Nat} {l : List (Str × Tok)} (hit : ItemsOf (fun i y => i < n ∧ ∃ t, y = Value.str (txt (f i)) t) (strValues l).toArray n) : l.map (·.1) = ((List.range n).map f).map txt := by
  obtain ⟨h1, h2⟩ := hit
  have hn : l.length = n := by
    rw [List.size_toArray] at h1
    rw [← h1]; simp [strValues]
  apply List.ext_getElem
  · simp [hn]
  · intro i hi1 hi2
    have hi : i < l.length := by simpa using hi1
    obtain ⟨_, t, e⟩ := h2 i (.str l[i].1 l[i].2) (by simp [strValues, hi])
    have e1 : l[i].1 = txt (f i) := by injection e
    simp only [List.getElem_map, List.getElem_range]
    exact e1
theorem spec_str {w : World} {mean : ExcName → Option Value} {mg mb : Str → Option Value} {B : Heap} (T : Top₁ mean mg mb B) (X : (KK w.params).In B)
    {A : Around} {L : Addr} {h : Heap} {g : Array GenState} {d : Drawn} {tk : Nat} {os : OsState} {news : List (Addr × Obj)} {gn : Array Value → List (Addr × Obj)} {m : Str → Option Value} {x dx : Addr} {items ps : Array Value} {c : Nat} {od : Obj} {Ts : Nat → Addr} {sa sb : Nat → List Nat} {ta tb : Nat → Tok} {Q E : Value → Shared → Prop}
    (F : Fr B L h m) (N : News B L h news) (hg : AllBare g) (h1 : (x, pileO dx items c) ∈ news) (h2 : (dx, od) ∈ news) (h3 : (141, tabO ps) ∈ news) (U : ∀ ps', Upd 141 (tabO ps) (tabO ps') news (gn ps')) (hps : TabOk ⟨69, 32, 69, 85⟩ ps)
    (hT : ∀ j, j < items.size → items[j]? = some (.ref (Ts j)) ∧ (Ts j, pairO (.str (txt (sa j)) (ta j)) (.str (txt (sb j)) (tb j))) ∈ news)
    (hsz : items.size ≤ 500) (hlen : ∀ j, j < items.size → (sa j).length ≤ 1000 ∧ (sb j).length ≤ 1000) (hd : A.depth + 10 < recursionLimit) (hh : A.handled = none) (hsum : ((((List.range items.size).map fun j => sa j ++ sb j).map List.length).sum + items.size ≤ 1048576))
    (hQ : ∀ h' g' tk' ps' t, TabOk ⟨69, 32, 69, 85⟩ ps' → AllBare g' → Fr B L h' m → News B L h' (gn ps') → Q (.str (txt ((List.range items.size).map fun j => sa j ++ sb j).flatten) t) ⟨h', g', d, tk', os⟩) :
    wpAny (M₁ w) A (call (.ref 146) [.ref x]) Q E ⟨h, g, d, tk, os⟩ := by
  obtain ⟨ah, ad, af, ag, au⟩ := A
  obtain rfl : ah = none := hh
  refine spec_atG (binds := [(u "self", Value.ref x)]) (fun v news' => ∃ t ps', v = .str (txt ((List.range items.size).map fun j => sa j ++ sb j).flatten) t ∧ TabOk ⟨69, 32, 69, 85⟩ ps' ∧ news' = gn ps') F N X T (by rfl) (by rfl) (by dsimp only at *; omega) (.of_eq (by rfl)) (locs (by rfl)) ?_ ?_ (by rfl) (by rfl) (by rfl) (by decide)
  · intro L' h₁ fo Q' hlt F' N' hR
    have hL1 : L ≠ 141 := Ne.symm (N _ h3).2.1
    have hLs : L' < h₁.objs.size := F'.ns.lt
    have hBs : ∀ b o, B.get? b = some o → b < h₁.objs.size := fun b o e => Heap.lt_size (F'.keep b o e)
    have hNs : ∀ a, (∃ o, (a, o) ∈ (L, fo) :: news) → a < h₁.objs.size := fun a ⟨o, ho⟩ => Heap.lt_size (N' _ ho).1
    refine at_of_any ?_
    repeat' (first | (k_unfold; (try dsimp only)) | (walk1; (try dsimp only)) | (dsimp only; walk1))
    refine gen_pile (P := 141) (c := 145) (Ts := Ts) (va := fun j => .str (txt (sa j)) (ta j)) (vb := fun j => .str (txt (sb j)) (tb j)) (Fv := fun i y => ∃ t, y = .str (txt (sa i ++ sb i)) t) T X F' N' hg (.tail _ h1) (.tail _ h2) (.tail _ h3) (fun ps' => .tail hL1 (U ps')) hps (fun j hj => ⟨(hT j hj).1, .tail _ (hT j hj).2⟩) rfl ⟨_, _, _, _, _, _, _, _, _, _, rfl, rfl, rfl, rfl, rfl, rfl, rfl⟩ rfl rfl ?_ ?_ ?_ ?_ (by rfl) (by decide) (by rfl) (by rfl) (by rfl) (by decide)
    · show ad + 1 < _; dsimp only at *; omega
    · intro Q hq
      repeat' (first | (k_unfold; (try dsimp only)) | (walk1; (try dsimp only)) | (dsimp only; walk1))
      exact hq
    · intro A' E' i C code s₂ m₂ hA hi F₂ ha hb
      exact str_elt T X hA F₂ ha hb ⟨rfl, rfl, rfl, rfl⟩ rfl rfl rfl (hlen i hi).1 (hlen i hi).2
    · intro a h₂ g₂ tk₂ ps' fp wr gi St W hst hty hafp hfp hwr hps' hg' F₂ N₂
      clear F' N'
      repeat' (first | (k_unfold; (try dsimp only)) | ((fail_if_success (with_reducible show wpAny _ _ (call _ _) _ _ _)); walk1; (try dsimp only)) | (dsimp only; (fail_if_success (with_reducible show wpAny _ _ (call _ _) _ _ _)); walk1))
      refine SC.joinGen W.in4_2 hty (W.frame 0 _ _ _ hst (by dsimp only; omega) (fun _ _ _ e => e)) hfp hafp (fun i v hv => let ⟨_, t, e⟩ := hv; ⟨_, t, e⟩) ?_ ?_
      · intro s' l hm hit
        obtain ⟨h₃, g₃, d₃, tk₃, os₃⟩ := s'
        obtain ⟨m1, m2, m3, m4, m5⟩ := hm
        dsimp only at m1 m2 m3 m4 m5
        subst m3 m4
        have old : ∀ b o, b < h₁.objs.size → h₂.get? b = some o → h₃.get? b = some o := fun b o hb e => m1 b o (fun z => Nat.not_lt.mpr (hwr b z) hb) e
        have hl : l.map (·.1) = ((List.range items.size).map fun j => sa j ++ sb j).map txt := by
          exact strs_of hit
        rw [hl, join_txt]
        refine ⟨join_ok (by rw [List.length_map, List.length_range]; exact hsum), fun t' k => ?_⟩
        refine hR (.ret _) h₃ _ _ _ _ ⟨t', ps', rfl, hps', rfl⟩ (hg'.moved m2) ⟨F₂.ns.at' fun o e => old _ o hLs e, fun b o e => old b o (hBs b o e) (F₂.keep b o e), F₂.above⟩ (fun p hp => ?_) (fun p hp => ?_)
        · have z := N₂ p hp
          exact ⟨old _ _ (hNs p.1 (by
            rcases List.mem_cons.mp hp with rfl | hp
            · exact ⟨_, .head _⟩
            · obtain ⟨o, ho⟩ := Upd.addr_mem (U ps') hp
              exact ⟨o, .tail _ ho⟩)) z.1, z.2⟩
        · obtain ⟨o, ho⟩ := Upd.addr_mem (U ps') hp
          exact (N _ ho).2.1
      · have : 500 ≤ sizeLine := by decide
        omega
  · rintro v h' g' tk' n' ⟨t, ps', rfl, hps', rfl⟩ hb F' N'
    exact hQ h' g' tk' ps' t hps' hb F' N'
end Mine
set_option maxRecDepth 100000
set_option maxHeartbeats 2000000
namespace Mine
open PySem PySem.W PySem.Calls PyProof.Rows
/-- texts in a list -/
noncomputable def StrsTxt (vs : List Value) (ws : List (List Nat)) : Prop := vs.length = ws.length ∧ ∀ (i : Nat) (w : List Nat), ws[i]? = some w → ∃ t, (vs[i]? : Option Value) = some (Value.str (txt w) t)
/-- the pile's pairs -/
noncomputable def Tup (items : Array Value) (ts : List (Addr × Obj)) (ps : List (List Nat)) : Prop :=
  items.size = ps.length ∧ ∀ (j : Nat) (w : List Nat), ps[j]? = some w → ∃ T t1 t2, (items[j]? : Option Value) = some (Value.ref T) ∧ (T, pairO (Value.str (txt (w.take 1)) t1) (Value.str (txt (w.drop 1)) t2)) ∈ ts
theorem StrsTxt.reverse {vs : List Value} {ws : List (List Nat)} (h : StrsTxt vs ws) : StrsTxt vs.reverse ws.reverse := by
  obtain ⟨h1, h2⟩ := h
  refine ⟨by simp [h1], fun i w hi => ?_⟩
  obtain ⟨hlt, e⟩ := List.getElem?_eq_some_iff.mp hi
  have hlt' : i < ws.length := by simpa using hlt
  rw [List.getElem?_reverse hlt'] at hi
  obtain ⟨t, ht⟩ := h2 _ w hi
  exact ⟨t, by rw [List.getElem?_reverse (by omega), h1]; exact ht⟩
theorem Tup.push {items : Array Value} {ts : List (Addr × Obj)} {ps : List (List Nat)} {wd : List Nat} {T : Addr} {t1 t2 : Tok} (h : Tup items ts ps) : Tup (items.push (.ref T)) ((T, pairO (Value.str (txt (wd.take 1)) t1) (Value.str (txt (wd.drop 1)) t2)) :: ts) (ps ++ [wd]) := by
  obtain ⟨h1, h2⟩ := h
  refine ⟨by simp [h1], fun j w hj => ?_⟩
  rcases Nat.lt_trichotomy j ps.length with hlt | heq | hgt
  · rw [List.getElem?_append_left hlt] at hj
    obtain ⟨T', t1', t2', e, hm⟩ := h2 j w hj
    refine ⟨T', t1', t2', ?_, .tail _ hm⟩
    rw [Array.getElem?_push, if_neg (by omega)]; exact e
  · subst heq
    rw [List.getElem?_append_right (Nat.le_refl _), Nat.sub_self] at hj
    obtain rfl : wd = w := Option.some.inj hj
    exact ⟨T, t1, t2, by rw [Array.getElem?_push, if_pos h1.symm], .head _⟩
  · rw [List.getElem?_eq_none (by simp; omega)] at hj; cases hj
/-- how the front is laid out in words -/
noncomputable def layR : List (List Nat) → List Nat → List (List Nat) → Option (List (List Nat) × List Nat)
  | [], rest, acc => some (acc, rest)
  | w :: ws, rest, acc =>
    if decide (w <+: rest) = decide (w.length ≤ rest.length) then
      if w <+: rest then
        if (w.dropLast ++ [if w.getLast? = some 102 then 105 else 102]) <+: rest then none
        else if decide (w.drop 1 <+: rest) = decide (w = [102]) then layR ws (rest.drop w.length) (acc ++ [w]) else none
      else layR ws rest acc
    else none
theorem layR_cons {w : List Nat} {ws : List (List Nat)} {rest : List Nat} {acc : List (List Nat)} {out : List (List Nat) × List Nat} (h : layR (w :: ws) rest acc = some out) :
    (w <+: rest ∧ w.length ≤ rest.length ∧ ¬ ((w.dropLast ++ [if w.getLast? = some 102 then 105 else 102]) <+: rest) ∧ decide (w.drop 1 <+: rest) = decide (w = [102]) ∧ layR ws (rest.drop w.length) (acc ++ [w]) = some out) ∨
    (¬ w <+: rest ∧ ¬ w.length ≤ rest.length ∧ layR ws rest acc = some out) := by
  rw [layR] at h
  by_cases e1 : decide (w <+: rest) = decide (w.length ≤ rest.length)
  · rw [if_pos e1] at h
    by_cases e2 : w <+: rest
    · rw [if_pos e2] at h
      by_cases e3 : (w.dropLast ++ [if w.getLast? = some 102 then 105 else 102]) <+: rest
      · rw [if_pos e3] at h; cases h
      · rw [if_neg e3] at h
        by_cases e4 : decide (w.drop 1 <+: rest) = decide (w = [102])
        · rw [if_pos e4] at h
          exact .inl ⟨e2, e2.length_le, e3, e4, h⟩
        · rw [if_neg e4] at h; cases h
    · rw [if_neg e2] at h
      rw [decide_eq_false e2] at e1
      exact .inr ⟨e2, of_decide_eq_false e1.symm, h⟩
  · rw [if_neg e1] at h; cases h
theorem filledLay1 (P : Params) : PySem.Challenge.rw_wr0051_01 = PySem.Challenge.rw_wr0051_01 ∧ KK P = KK P := by k_fill; exact ⟨rfl, rfl⟩
theorem spec_lay {w : World} {mean : ExcName → Option Value} {mg mb : Str → Option Value} {B : Heap} (T : Top₁ mean mg mb B) (X : (KK w.params).In B)
    {A : Around} {L Wd : Addr} {h : Heap} {g : Array GenState} {d : Drawn} {tk : Nat} {os : OsState} {m : Str → Option Value} {x dx : Addr} {items : Array Value} {c cw : Nat} {od : Obj} {first : Value} {ts base : List (Addr × Obj)} {ps0 ps ws : List (List Nat)} {r : List Nat} {us : List Value} {tr : Tok} {Q E : Value → Shared → Prop}
    (F : Fr B L h m) (N : News B L h ((x, pileO dx items c) :: (ts ++ base))) (hx : ∀ p ∈ ts ++ base, p.1 ≠ x) (h2 : (dx, od) ∈ base) (hW : (Wd, W.listOf us.toArray cw) ∈ base) (hus : StrsTxt us ws) (O : Own od first) (htup : Tup items ts ps0)
    (hd : A.depth + 10 < recursionLimit) (hh : A.handled = none) (hlay : layR ws.reverse r [] = some (ps, [])) (hws : ∀ a ∈ ws, 46 ∉ a ∧ 1 ≤ a.length ∧ a.length ≤ 50) (hwl : ws.length ≤ 50) (hr : r.length ≤ 50) (hlen500 : ps0.length ≤ 100)
    (hQ : ∀ h' tk' items' c' ts', Tup items' ts' (ps0 ++ ps) → (∀ p ∈ ts' ++ base, p.1 ≠ x) → (∀ p ∈ ts, p ∈ ts') → Fr B L h' m → News B L h' ((x, pileO dx items' c') :: (ts' ++ base)) → Q (.bool true) ⟨h', g, d, tk', os⟩) :
    wpAny (M₁ w) A (call (.ref 211) [.ref x, .ref Wd, .str (txt r) tr]) Q E ⟨h, g, d, tk, os⟩ := by
  obtain ⟨ah, ad, af, ag, au⟩ := A
  obtain rfl : ah = none := hh
  refine spec_fnW (binds := [(u "pile", Value.ref x), (u "words", .ref Wd), (u "rest", .str (txt r) tr)]) (fun v news' => v = .bool true ∧ ∃ items' c' ts', Tup items' ts' (ps0 ++ ps) ∧ (∀ p ∈ ts' ++ base, p.1 ≠ x) ∧ (∀ p ∈ ts, p ∈ ts') ∧ news' = (x, pileO dx items' c') :: (ts' ++ base)) F N X T (by rfl) (by rfl) (by dsimp only at *; omega) (by rfl) (locs (by rfl)) ?_ ?_ (by rfl) (by rfl) (by rfl) (by decide)
  · intro L' h₁ fo Q' hlt F' N' hR
    refine execs_cutR (R := fun s' => ∃ (h' : Heap) (tk' : Nat) (items' : Array Value) (c' : Nat) (ts' : List (Addr × Obj)) (m' : Str → Option Value) (te : Tok), s' = ⟨h', g, d, tk', os⟩ ∧ Tup items' ts' (ps0 ++ ps) ∧ (∀ p ∈ ts' ++ base, p.1 ≠ x) ∧ (∀ p ∈ ts' ++ base, p.1 ≠ L) ∧ (∀ p ∈ ts, p ∈ ts') ∧ m' (Str.ofString "rest") = some (.str (txt []) te) ∧ Fr B L' h' m' ∧ News B L' h' ((L, fo) :: (x, pileO dx items' c') :: (ts' ++ base))) ?_ ?_
    · intro Q'' hQ hret
      refine for_gen B (by rfl) (by rfl) ?_
      have hlist : h₁.IsList Wd us.toArray := ⟨_, (N' _ (.tail _ (.tail _ (List.mem_append.mpr (.inr hW))))).1, rfl, _, rfl⟩
      have hlen : us.toArray.size ≤ sizeLine := by
        have z4 : 100 ≤ sizeLine := by decide
        have := hus.1
        simp only [List.size_toArray] at *; omega
      repeat' (first | (k_unfold; (try dsimp only)) | ((with_reducible show wpAny _ _ (subscriptTail _ _ _ _) _ _ _); refine krv_lit (s := ⟨h₁, g, d, _, os⟩) F' N' hlist (.int _ _) rfl ?_ (by with_unfolding_all rfl) (by intro _; with_unfolding_all rfl) hlen; intro D h₂ F₂ N₂ hD) | ((fail_if_success (with_reducible show wpAny _ _ (pyIter _) _ _ _)); (fail_if_success (with_reducible show wpAny _ _ (subscriptTail _ _ _ _) _ _ _)); walk1; (try dsimp only)) | (dsimp only; (fail_if_success (with_reducible show wpAny _ _ (pyIter _) _ _ _)); (fail_if_success (with_reducible show wpAny _ _ (subscriptTail _ _ _ _) _ _ _)); walk1))
      clear hlist F' N'
      refine iter_list (fun i m₁ news₁ => ∃ (acc : List (List Nat)) (ri : List Nat) (items' : Array Value) (c' : Nat) (ts' : List (Addr × Obj)) (te : Tok), acc.length ≤ i ∧ layR (ws.reverse.drop i) ri acc = some (ps, []) ∧ ri.length ≤ 50 ∧ Tup items' ts' (ps0 ++ acc) ∧ (∀ p ∈ ts' ++ base, p.1 ≠ x) ∧ (∀ p ∈ ts' ++ base, p.1 ≠ L) ∧ (∀ p ∈ ts, p ∈ ts') ∧
        m₁ (Str.ofString "pile") = some (.ref x) ∧ m₁ (Str.ofString "rest") = some (.str (txt ri) te) ∧ news₁ = (D, W.listOf us.toArray.toList.reverse.toArray 0) :: (L, fo) :: (x, pileO dx items' c') :: (ts' ++ base)) F₂ N₂ (.head _) (by rfl) ?_ ?_ ?_ ?_
      · rintro i m' n' ⟨acc, ri, items', c', ts', te, _, _, _, _, _, _, _, _, _, rfl⟩; exact .head _
      · exact ⟨[], r, items, c, ts, tr, Nat.zero_le _, hlay, hr, by rw [List.append_nil]; exact htup, hx, fun p hp => (N p (.tail _ hp)).2.1, fun _ h => h, rfl, rfl, rfl⟩
      · clear N₂ F₂
        rintro I io i v m₁ news₁ h₃ tk₃ Q₁ hv ⟨acc, ri, items', c', ts', te, hacc, hl, hri, htup', hx', hxL', hts', hm1, hm2, rfl⟩ hI hIn F₁ N₁ hnext hret'
        have hi50 : i < 50 := by
          have h4 : i < us.toArray.toList.reverse.toArray.size := (Array.getElem?_eq_some_iff.mp hv).1
          have h5 := hus.1
          simp at h4; omega
        obtain ⟨wd, hwd⟩ : ∃ wd, ws.reverse[i]? = some wd := by
          have : i < us.toArray.toList.reverse.toArray.size := (Array.getElem?_eq_some_iff.mp hv).1
          have h5 := hus.1
          have : i < ws.reverse.length := by simp at *; omega
          exact ⟨ws.reverse[i], List.getElem?_eq_getElem this⟩
        obtain ⟨tw, hvw⟩ : ∃ tw, v = .str (txt wd) tw := by
          obtain ⟨t, e⟩ := hus.reverse.2 i wd hwd
          have hv' : us.reverse[i]? = some v := by simpa using hv
          exact ⟨t, Option.some.inj (hv'.symm.trans e)⟩
        subst hvw
        have hwd3 := hws wd (List.mem_reverse.mp (List.mem_of_getElem? hwd))
        have hl' : layR (wd :: ws.reverse.drop (i + 1)) ri acc = some (ps, []) := by
          obtain ⟨hlt, e⟩ := List.getElem?_eq_some_iff.mp hwd
          rw [List.drop_eq_getElem_cons hlt, e] at hl
          exact hl
        have hlw : (txt wd).length ≤ 50 := by rw [txt_len]; exact hwd3.2.2
        dsimp only at *
        replace F₁ : Fr B L' h₃ (put m₁ (Str.ofString "word") (.str (txt wd) tw)) := F₁
        replace N₁ : News B L' h₃ ((I, io) :: (D, W.listOf us.reverse.toArray 0) :: (L, fo) :: (x, pileO dx items' c') :: (ts' ++ base)) := N₁
        have h46 : 46 ∉ wd := hwd3.1
        have hwl1 : ((txt wd).length : Int) = wd.length := by rw [txt_len]
        have hrl1 : ((txt ri).length : Int) = ri.length := by rw [txt_len]
        have hw50 : wd.length ≤ 50 := hwd3.2.2
        have hw1 : 1 ≤ wd.length := hwd3.2.1
        refine execs_cutR (R := fun s' => ∃ (h' : Heap) (tk' : Nat), s' = ⟨h', g, d, tk', os⟩ ∧ Fr B L' h' (put (put m₁ (Str.ofString "word") (.str (txt wd) tw)) (Str.ofString "begins") (.bool (decide (wd <+: ri)))) ∧ News B L' h' ((I, io) :: (D, W.listOf us.reverse.toArray 0) :: (L, fo) :: (x, pileO dx items' c') :: (ts' ++ base))) ?_ ?_
        · intro Q₂ hQ₂ _
          repeat' (first | ((with_reducible show wpAny _ _ (eval (.Name _ _) _) _ _ _); refine' ld (by assumption) ?hv ?_; (case hv => first | exact rfl | assumption)) | ((with_reducible show wpAny _ _ (call (Value.ref 92) _) _ _ _); rw [show txt wd ++ Str.ofString "..." = txt (wd ++ [46, 46, 46]) from txt_app _ _]; refine spec_ell T X (by assumption) (by assumption) (by show ad + 1 < _; omega) rfl h46 ⟨by (try simp only [List.length_drop, List.length_append, List.length_dropLast, List.length_singleton]); omega, by omega⟩ ?_; intro _ _ _ _) | (k_unfold; (try dsimp only)) | (walk1; (try dsimp only)) | (dsimp only; walk1))
          exact hQ₂ _ ⟨_, _, rfl, by assumption, by assumption⟩
        clear F₁ N₁
        rintro s' ⟨h₄, tk₄, rfl, F₁, N₁⟩
        have hb : put (put m₁ (Str.ofString "word") (.str (txt wd) tw)) (Str.ofString "begins") (.bool (decide (wd <+: ri))) (Str.ofString "begins") = some (.bool (decide (wd <+: ri))) := rfl
        rcases layR_cons hl' with ⟨e2, elen, e3, e4, hl2⟩ | ⟨e2, elen, hl2⟩
        · rw [decide_eq_true e2] at F₁ hb
          have hle : decide (((txt wd).length : Int) ≤ (txt ri).length) = true := decide_eq_true (by omega)
          refine execs_cutR (R := fun s' => ∃ tk', s' = ⟨h₄, g, d, tk', os⟩) ?_ ?_
          · intro Q₂ hQ₂ _
            repeat' (first | ((with_reducible show wpAny _ _ (eval (.Name _ _) _) _ _ _); refine' ld (by assumption) ?hv ?_; (case hv => first | exact rfl | assumption)) | (k_unfold; (try dsimp only)) | (walk1; (try dsimp only)) | (dsimp only; walk1))
            · rename_i hc
              rw [hle] at hc; cases hc
            · exact hQ₂ _ ⟨_, rfl⟩
          rintro s' ⟨tk₅, rfl⟩
          obtain ⟨a, ha⟩ : ∃ a, wd.getLast? = some a := by
            cases wd with
            | nil => simp at hw1
            | cons b r => exact ⟨_, List.getLast?_eq_some_getLast (by simp)⟩
          have hlast := item_txt_last ha
          have hinit := slice_txt_init (l := wd) (by omega)
          have hfrom1 : Txt.slice (txt wd) (some 1) none = txt (wd.drop 1) := slice_txt_from (i := 1) (by decide) (by omega)
          have hto1 : Txt.slice (txt wd) none (some 1) = txt (wd.take 1) := slice_txt_to (j := 1) (by decide) (by omega)
          have hfromw : Txt.slice (txt ri) (some ((txt wd).length : Int)) none = txt (ri.drop wd.length) := by
            rw [hwl1]; exact slice_txt_from (by omega) (by omega)
          have hlof : ((wd.dropLast ++ [if wd.getLast? = some 102 then 105 else 102]) : List Nat).length ≤ 60 := by simp; omega
          have h46o : 46 ∉ (wd.dropLast ++ [if wd.getLast? = some 102 then 105 else 102]) := by
            intro hm
            rcases List.mem_append.mp hm with hm | hm
            · exact h46 (List.dropLast_subset _ hm)
            · have := List.mem_singleton.mp hm; split at this <;> cases this
          repeat' (first | ((with_reducible show wpAny _ _ (eval (.Name _ _) _) _ _ _); refine' ld (by assumption) ?hv ?_; (case hv => first | exact rfl | assumption)) | (k_unfold; (try dsimp only)) | ((fail_if_success (with_reducible show wpAny _ _ (execs (Stmt.Assign _ _ _ :: _) _) _ _ _)); walk1; (try dsimp only)) | (dsimp only; (fail_if_success (with_reducible show wpAny _ _ (execs (Stmt.Assign _ _ _ :: _) _) _ _ _)); walk1))
          refine execs_cut (R := fun s' => ∃ (h' : Heap) (tk' : Nat) (to : Tok), s' = ⟨h', g, d, tk', os⟩ ∧ Fr B L' h' (put (put (put m₁ (Str.ofString "word") (.str (txt wd) tw)) (Str.ofString "begins") (.bool true)) (Str.ofString "other") (.str (txt (wd.dropLast ++ [if wd.getLast? = some 102 then 105 else 102])) to)) ∧ News B L' h' ((I, io) :: (D, W.listOf us.reverse.toArray 0) :: (L, fo) :: (x, pileO dx items' c') :: (ts' ++ base))) ?_ ?_
          · intro Q₂ hQ₂
            repeat' (first | ((with_reducible show wpAny _ _ (eval (.Name _ _) _) _ _ _); refine' ld (by assumption) ?hv ?_; (case hv => first | exact rfl | assumption)) | (k_unfold; (try dsimp only)) | (walk1; (try dsimp only)) | (dsimp only; walk1))
            · rename_i hc _ _ _ _ F₂ N₂
              have e102 : a = 102 := by
                rw [hlast, show Str.ofString "f" = txt [102] from rfl, txt_beq] at hc
                have := of_decide_eq_true hc; simpa using this
              rw [hinit, show Str.ofString "i" = txt [105] from rfl, txt_app] at F₂
              exact hQ₂ _ ⟨_, _, _, rfl, by rw [ha, e102, if_pos rfl]; exact F₂, N₂⟩
            · rename_i hc _ _ _ _ F₂ N₂
              have e102 : a ≠ 102 := by
                intro z; subst z
                rw [hlast, show Str.ofString "f" = txt [102] from rfl, txt_beq] at hc
                exact absurd rfl (of_decide_eq_false hc)
              rw [hinit, show Str.ofString "f" = txt [102] from rfl, txt_app] at F₂
              exact hQ₂ _ ⟨_, _, _, rfl, by rw [ha, if_neg (by intro z; exact e102 (Option.some.inj z))]; exact F₂, N₂⟩
          clear F₁ N₁
          rintro s' ⟨h₅, tk₆, to, rfl, F₁, N₁⟩
          have hlo1 : (txt (wd.dropLast ++ [if wd.getLast? = some 102 then 105 else 102])).length ≤ 60 := by rw [txt_len]; exact hlof
          generalize hoth : (wd.dropLast ++ [if wd.getLast? = some 102 then 105 else 102]) = oth at *
          refine execs_cutR (R := fun s' => ∃ (h' : Heap) (tk' : Nat), s' = ⟨h', g, d, tk', os⟩ ∧ Fr B L' h' (put (put (put m₁ (Str.ofString "word") (.str (txt wd) tw)) (Str.ofString "begins") (.bool true)) (Str.ofString "other") (.str (txt oth) to)) ∧ News B L' h' ((I, io) :: (D, W.listOf us.reverse.toArray 0) :: (L, fo) :: (x, pileO dx items' c') :: (ts' ++ base))) ?_ ?_
          · intro Q₂ hQ₂ _
            repeat' (first | ((with_reducible show wpAny _ _ (eval (.Name _ _) _) _ _ _); refine' ld (by assumption) ?hv ?_; (case hv => first | exact rfl | assumption)) | ((with_reducible show wpAny _ _ (call (Value.ref 92) _) _ _ _); rw [show ∀ y : List Nat, txt y ++ Str.ofString "..." = txt (y ++ [46, 46, 46]) from fun _ => txt_app _ _]; refine spec_ell T X (by assumption) (by assumption) (by show ad + 1 < _; omega) rfl h46o ⟨by (try simp only [List.length_drop, List.length_append, List.length_dropLast, List.length_singleton]); omega, by omega⟩ ?_; intro _ _ _ _) | (k_unfold; (try dsimp only)) | (walk1; (try dsimp only)) | (dsimp only; walk1))
            · rename_i hc
              rw [decide_eq_false e3] at hc; cases hc
            · exact hQ₂ _ ⟨_, _, rfl, by assumption, by assumption⟩
          clear F₁ N₁
          rintro s' ⟨h₆, tk₇, rfl, F₁, N₁⟩
          refine execs_cutR (R := fun s' => ∃ (h' : Heap) (tk' : Nat), s' = ⟨h', g, d, tk', os⟩ ∧ Fr B L' h' (put (put (put m₁ (Str.ofString "word") (.str (txt wd) tw)) (Str.ofString "begins") (.bool true)) (Str.ofString "other") (.str (txt oth) to)) ∧ News B L' h' ((I, io) :: (D, W.listOf us.reverse.toArray 0) :: (L, fo) :: (x, pileO dx items' c') :: (ts' ++ base))) ?_ ?_
          · intro Q₂ hQ₂ _
            repeat' (first | ((with_reducible show wpAny _ _ (eval (.Name _ _) _) _ _ _); refine' ld (by assumption) ?hv ?_; (case hv => first | exact rfl | assumption)) | ((with_reducible show wpAny _ _ (call (Value.ref 92) _) _ _ _); rw [hfrom1, show ∀ y : List Nat, txt y ++ Str.ofString "..." = txt (y ++ [46, 46, 46]) from fun _ => txt_app _ _]; refine spec_ell T X (by assumption) (by assumption) (by show ad + 1 < _; omega) rfl (fun hm => h46 (List.mem_of_mem_drop hm)) ⟨by (try simp only [List.length_drop, List.length_append, List.length_dropLast, List.length_singleton]); omega, by omega⟩ ?_; intro _ _ _ _) | (k_unfold; (try dsimp only)) | (walk1; (try dsimp only)) | (dsimp only; walk1))
            · rename_i hc
              rw [show Str.ofString "f" = txt [102] from rfl, txt_beq, e4] at hc
              simp at hc
            · exact hQ₂ _ ⟨_, _, rfl, by assumption, by assumption⟩
          clear F₁ N₁
          rintro s' ⟨h₇, tk₈, rfl, F₁, N₁⟩
          have hxD : D ≠ x := Nat.ne_of_gt (hD (x, pileO dx items c) (.tail _ (.head _)))
          have hxI : I ≠ x := Ne.symm (hI (x, pileO dx items' c') (.tail _ (.tail _ (.head _))))
          have hxL : L ≠ x := Ne.symm (N _ (.head _)).2.1
          have hps : items'.size ≤ 500 := by rw [htup'.1, List.length_append]; omega
          refine execs_cut (R := fun s' => ∃ (h' : Heap) (tk' : Nat) (T : Addr) (t1 t2 : Tok), s' = ⟨h', g, d, tk', os⟩ ∧ (∀ p ∈ ((I, io) :: (D, W.listOf us.reverse.toArray 0) :: (L, fo) :: (x, pileO dx items' c') :: (ts' ++ base)), p.1 < T) ∧ Fr B L' h' (put (put (put m₁ (Str.ofString "word") (.str (txt wd) tw)) (Str.ofString "begins") (.bool true)) (Str.ofString "other") (.str (txt oth) to)) ∧ News B L' h' ((T, pairO (Value.str (txt (wd.take 1)) t1) (Value.str (txt (wd.drop 1)) t2)) :: (I, io) :: (D, W.listOf us.reverse.toArray 0) :: (L, fo) :: (x, pileO dx (items'.push (.ref T)) (c' + 1)) :: (ts' ++ base))) ?_ ?_
          · intro Q₂ hQ₂
            have hne2 : ∀ (v : Value), ∀ p ∈ ((I, io) :: (D, W.listOf us.reverse.toArray 0) :: (L, fo) :: (x, pileO dx (items'.push v) (c' + 1)) :: (ts' ++ base)), p.1 ≠ L' := by
              intro v p hp
              rcases List.mem_cons.mp hp with rfl | hp
              · exact (N₁ _ (.head _)).2.1
              rcases List.mem_cons.mp hp with rfl | hp
              · exact (N₁ _ (.tail _ (.head _))).2.1
              rcases List.mem_cons.mp hp with rfl | hp
              · exact (N₁ _ (.tail _ (.tail _ (.head _)))).2.1
              rcases List.mem_cons.mp hp with rfl | hp
              · exact (N₁ (x, pileO dx items' c') (.tail _ (.tail _ (.tail _ (.head _))))).2.1
              · exact (N₁ p (.tail _ (.tail _ (.tail _ (.tail _ hp))))).2.1
            have z500 : 500 ≤ sizeLine := by decide
            repeat' (first | ((with_reducible show wpAny _ _ (eval (.Name _ _) _) _ _ _); refine' ld (by assumption) ?hv ?_; (case hv => first | exact rfl | assumption)) | ((with_reducible show wpAny _ _ (getMethod (Value.ref x) (Str.ofString "push") _) _ _ _); refine pile_method (f := 116) X (by assumption) (by assumption) (.tail _ (.tail _ (.tail _ (.head _)))) (.tail _ (.tail _ (.tail _ (.tail _ (List.mem_append.mpr (.inr h2)))))) (by kernel_rfl) (by kernel_rfl) O.push ?_) | ((with_reducible show wpAny _ _ (call (Value.ref 116) _) _ _ _); rw [hto1, hfrom1]; refine spec_push T X (by assumption) (by assumption) (.tail _ (.tail _ (.tail _ (.head _)))) (.tail _ (.tail _ (.tail _ (.tail _ (List.mem_append.mpr (.inr h2)))))) (gn := fun v => (I, io) :: (D, W.listOf us.reverse.toArray 0) :: (L, fo) :: (x, pileO dx (items'.push v) (c' + 1)) :: (ts' ++ base)) (fun v => .tail hxI (.tail hxD (.tail hxL (.head hx')))) O (by show ad + 1 < _; omega) rfl (by omega) hne2 ?_; intro h₈ tk₉ T₈ F₂ N₂ hT₈ hL₈) | (k_unfold; (try dsimp only)) | (walk1; (try dsimp only)) | (dsimp only; walk1))
            exact hQ₂ _ ⟨_, _, T₈, _, _, rfl, hT₈, F₂, N₂⟩
          clear F₁ N₁
          rintro s' ⟨h₈, tk₉, T₈, t1, t2, rfl, hT₈, F₁, N₁⟩
          repeat' (first | ((with_reducible show wpAny _ _ (eval (.Name _ _) _) _ _ _); refine' ld (by assumption) ?hv ?_; (case hv => first | exact rfl | assumption)) | (k_unfold; (try dsimp only)) | (walk1; (try dsimp only)) | (dsimp only; walk1))
          rename_i F₂ N₂
          rw [hfromw] at F₂
          have hTx : T₈ ≠ x := Nat.ne_of_gt (hT₈ (x, pileO dx items' c') (.tail _ (.tail _ (.tail _ (.head _)))))
          have hTI : I < T₈ := hT₈ (I, io) (.head _)
          refine hnext _ _ _ ((D, W.listOf us.reverse.toArray 0) :: (L, fo) :: (x, pileO dx (items'.push (.ref T₈)) (c' + 1)) :: (((T₈, pairO (Value.str (txt (wd.take 1)) t1) (Value.str (txt (wd.drop 1)) t2)) :: ts') ++ base)) F₂ ?_ ?_ ⟨acc ++ [wd], ri.drop wd.length, items'.push (.ref T₈), c' + 1, (T₈, pairO (Value.str (txt (wd.take 1)) t1) (Value.str (txt (wd.drop 1)) t2)) :: ts', _, ?_, hl2, ?_, ?_, ?_, ?_, ?_, hm1, rfl, rfl⟩
          · intro p hp
            rcases List.mem_cons.mp hp with rfl | hp
            · exact N₂ _ (.tail _ (.head _))
            rcases List.mem_cons.mp hp with rfl | hp
            · exact N₂ _ (.tail _ (.tail _ (.head _)))
            rcases List.mem_cons.mp hp with rfl | hp
            · exact N₂ _ (.tail _ (.tail _ (.tail _ (.head _))))
            rcases List.mem_cons.mp hp with rfl | hp
            · exact N₂ _ (.tail _ (.tail _ (.tail _ (.tail _ (.head _)))))
            rcases List.mem_cons.mp hp with rfl | hp
            · exact N₂ _ (.head _)
            · exact N₂ _ (.tail _ (.tail _ (.tail _ (.tail _ (.tail _ hp)))))
          · intro p hp
            rcases List.mem_cons.mp hp with rfl | hp
            · exact hI _ (.head _)
            rcases List.mem_cons.mp hp with rfl | hp
            · exact hI _ (.tail _ (.head _))
            rcases List.mem_cons.mp hp with rfl | hp
            · exact hI (x, pileO dx items' c') (.tail _ (.tail _ (.head _)))
            rcases List.mem_cons.mp hp with rfl | hp
            · exact Nat.ne_of_gt hTI
            · exact hI _ (.tail _ (.tail _ (.tail _ hp)))
          · simp only [List.length_append, List.length_singleton]; omega
          · rw [List.length_drop]; omega
          · rw [← List.append_assoc]
            exact htup'.push
          · intro p hp
            rcases List.mem_cons.mp hp with rfl | hp
            · exact hTx
            · exact hx' p hp
          · intro p hp
            rcases List.mem_cons.mp hp with rfl | hp
            · exact Nat.ne_of_gt (hT₈ (L, fo) (.tail _ (.tail _ (.head _))))
            · exact hxL' p hp
          · exact fun p hp => .tail _ (hts' p hp)
        · rw [decide_eq_false e2] at F₁ hb
          have hle : decide (((txt wd).length : Int) ≤ (txt ri).length) = false := decide_eq_false (by omega)
          repeat' (first | ((with_reducible show wpAny _ _ (eval (.Name _ _) _) _ _ _); refine' ld (by assumption) ?hv ?_; (case hv => first | exact rfl | assumption)) | (k_unfold; (try dsimp only)) | (walk1; (try dsimp only)) | (dsimp only; walk1))
          · rename_i hc
            rw [hle] at hc; cases hc
          · exact hnext h₄ _ _ _ F₁ N₁ hI ⟨acc, ri, items', c', ts', te, by omega, hl2, hri, htup', hx', hxL', hts', hm1, hm2, rfl⟩
      · rintro h₃ tk₃ m₃ news₃ F₃ N₃ ⟨acc, ri, items', c', ts', te, hacc, hl, hri, htup', hx', hxL', hts', hm1, hm2, rfl⟩
        have hnil : ws.reverse.drop us.toArray.toList.reverse.toArray.size = [] := by
          apply List.drop_of_length_le
          have := hus.1
          simp; omega
        rw [hnil] at hl
        obtain ⟨rfl, rfl⟩ : acc = ps ∧ ri = [] := by
          have := Option.some.inj hl
          exact ⟨congrArg Prod.fst this, congrArg Prod.snd this⟩
        exact hQ _ ⟨h₃, tk₃, items', c', ts', m₃, te, rfl, htup', hx', hxL', hts', hm2, F₃, fun p hp => N₃ p (.tail _ hp)⟩
    · rintro s' ⟨h₃, tk₃, items', c', ts', m₃, te, rfl, htup', hx', hxL', hts', hm2, F₃, N₃⟩
      clear F' N'
      repeat' (first | ((with_reducible show wpAny _ _ (eval (.Name _ _) _) _ _ _); refine' ld (by assumption) ?hv ?_; (case hv => first | exact rfl | assumption)) | (k_unfold; (try dsimp only)) | (walk1; (try dsimp only)) | (dsimp only; walk1))
      refine hR (.ret _) _ _ _ _ ⟨?_, items', c', ts', htup', hx', hts', rfl⟩ F₃ N₃ ?_
      · show Value.bool (txt [] == Str.ofString "") = _
        rfl
      · intro p hp
        rcases List.mem_cons.mp hp with rfl | hp
        · exact (N _ (.head _)).2.1
        · exact hxL' p hp
  · rintro v h' tk' news' ⟨rfl, items', c', ts', a1, a2, a3, rfl⟩ F' N'
    exact hQ h' tk' items' c' ts' a1 a2 a3 F' N'
end Mine
set_option maxRecDepth 100000
set_option maxHeartbeats 1000000
namespace Mine
open PySem PySem.W PySem.Calls PyProof.Rows
open Sem (wp)
section
variable {prog : Program} {w : World} {A : Around}
/-- a for whose target is a pair: the pair's giver may let it go -/
theorem forLoop_pair {R : Result → Shared → Prop} {target : Expr} {it : Value} {body orelse : List Stmt} {env : Env} (I : Nat → Shared → Prop)
    (turn : ∀ n s, I n s → wpAny (model prog w) A (pyNext it) (fun r s₁ => match r with
      | none => wpAny (model prog w) A (execs orelse env) (fun f s₃ => R (.ok f) s₃) (notedBy (model prog w) A env fun e s' => R (.error e) s') s₁
      | some v => wpAny (model prog w) A (letOwnedTupleGo target it v) (fun _ s₁' => wpAny (model prog w) A (assign target env v) (fun _ s₂ => wpAny (model prog w) A (execs body env) (fun f s₃ => match f with
          | .next | .cont => ∃ m, m < n ∧ I m s₃
          | .brk => R (.ok .next) s₃
          | .ret v => R (.ok (.ret v)) s₃) (notedBy (model prog w) A env fun e s' => R (.error e) s') s₂) (notedBy (model prog w) A env fun e s' => R (.error e) s') s₁') (notedBy (model prog w) A env fun e s' => R (.error e) s') s₁) (notedBy (model prog w) A env fun e s' => R (.error e) s') s)
    (n : Nat) {s : Shared} (h : I n s) : codeAny (model prog w) A (.forLoop target it body orelse env) R s := by
  refine codeAny_loop' rfl I (fun n s hI => ?_) n h
  show wpAny _ _ ((forTurn target it body orelse env).onRaise (fun x => do noteFrame x env; theTreesLotGoes x)) _ _ s
  refine wpAny_noted ?_
  simp only [forTurn]
  refine wpAny_bind (wpAny_standAt (wpAny_bind (wpAny_onRaise (wpAny_mono (turn n s hI) (fun r s₁ h₁ => ?_) fun _ _ h' => wpAny_standAt h'))))
  cases r with
  | none => exact wpAny_pure (.inr ⟨rfl, codeAny_block h₁⟩)
  | some v =>
    refine wpAny_bind (wpAny_mono h₁ (fun _ s₁' h₁' => ?_) fun _ _ h' => h')
    refine wpAny_bind (wpAny_mono h₁' (fun _ s₂ h₂ => wpAny_bind (wpAny_mono h₂ (fun f s₃ h₃ => ?_) fun _ _ h' => h')) fun _ _ h' => h')
    cases f with
    | next => exact wpAny_pure (.inl ⟨rfl, h₃⟩)
    | cont => exact wpAny_pure (.inl ⟨rfl, h₃⟩)
    | brk => exact wpAny_pure h₃
    | ret v => exact wpAny_pure h₃
end
section
variable {prog : Program} {w : World} {A : Around} {env : Env} {h₀ : Heap}
/-- what a for over pairs must bring -/
noncomputable def LoopP (prog : Program) (w : World) (A : Around) (h₀ : Heap) (env : Env) (xa xb : Str) (body : List Stmt) (Q : Flow → Shared → Prop) (it : Value) (s₂ : Shared) : Prop :=
  ∃ (I : Addr) (fp wr : List Addr) (n : Nat) (Pt : Nat → Array Value → Prop) (St : Nat → Heap → Prop) (Mid : Nat → Addr → Heap → Prop) (m : Str → Option Value) (news fpo : List (Addr × Obj)) (J : Nat → (Str → Option Value) → List (Addr × Obj) → Prop),
    it = .ref I ∧ WalksU prog w A I fp wr n Pt St Mid ∧ (∀ i v, Pt i v → ∃ a b, v = #[a, b]) ∧ env.locals ∉ wr ∧ (∀ b ∈ wr, h₀.get? b = none) ∧ (∀ i h, St i h → ∀ b ∈ wr, ∃ o, h.get? b = some o) ∧ (∀ b ∈ fp, b ∈ wr ∨ ∃ o, (b, o) ∈ fpo) ∧ (∀ p ∈ news, p.1 ∉ wr) ∧ St 0 s₂.heap ∧ Fr h₀ env.locals s₂.heap m ∧
    News h₀ env.locals s₂.heap news ∧ (∀ i m' n', J i m' n' → ∀ p ∈ fpo, p ∈ n') ∧ J 0 m news ∧
    (∀ i va vb m₁ news₁ h₁ tk₁ (ob : Addr → Obj) (Q' : Flow → Shared → Prop), i < n → Pt i #[va, vb] → J i m₁ news₁ → (∀ p ∈ news₁, p.1 ∉ wr) → Fr h₀ env.locals h₁ (put (put m₁ xa va) xb vb) → News h₀ env.locals h₁ (wr.map (fun b => (b, ob b)) ++ news₁) →
      (∀ h₂ tk₂ m₂ news₂, Fr h₀ env.locals h₂ m₂ → News h₀ env.locals h₂ (wr.map (fun b => (b, ob b)) ++ news₂) → (∀ p ∈ news₂, p.1 ∉ wr) → J (i + 1) m₂ news₂ → Q' .next { s₂ with heap := h₂, toks := tk₂ }) →
      (∀ v s', Q (.ret v) s' → Q' (.ret v) s') →
      wpAny (model prog w) A (execs body env) Q' (fun _ _ => False) { s₂ with heap := h₁, toks := tk₁ }) ∧
    ∀ h' tk m' news', Fr h₀ env.locals h' m' → News h₀ env.locals h' news' → J n m' news' → Q .next { s₂ with heap := h', toks := tk }
theorem for_pair {s : Shared} {xa xb : Str} {pa pb pt pos : Pos} {kt : Nat} {iter : Expr} {body : List Stmt} {Q : Flow → Shared → Prop} (hh : A.handled = none) (hxa : env.kindOf xa = some .local) (hxb : env.kindOf xb = some .local)
    (hp : (env.scope.kind == .class || (env.scope.kind == .module && env.locals != env.globals)) = false)
    (h : wpAny (model prog w) A (eval iter env) (fun xv s₁ => wpAny (model prog w) A (pyIter xv) (fun it s₂ => LoopP prog w A h₀ env xa xb body Q it s₂) (fun _ _ => False) s₁) (fun _ _ => False) s)
    (hs : ∀ x, foldedSetIterable iter env x = pure x := by intro _; rfl) :
    wpAny (model prog w) A (exec (.For (.Tuple [.Name xa pa, .Name xb pb] kt pt) iter body [] pos) env) Q (fun _ _ => False) s := by
  refine wpAny_For (wpAny_mono h (fun xv s₁ h₁ => wpAny_mono h₁ (fun it s₂ h₂ => ?_) fun _ _ e => e) fun _ _ e => e) hs
  obtain ⟨I, fp, wr, n, Pt, St, Mid, m, news, fpo, J, rfl, W, hsz, hLw, hBw, hio, hfp, hnw, hst, F, N, hJf, h0, step, hQ⟩ := h₂
  refine forLoop_pair (R := fun r s' => match r with | .ok f => Q f s' | .error e => cameBackBy (model prog w) A env (fun _ _ => False) e s')
    (fun k s' => ∃ h' tk m' news' i, s' = { s₂ with heap := h', toks := tk } ∧ St i h' ∧ Fr h₀ env.locals h' m' ∧ News h₀ env.locals h' news' ∧ (∀ p ∈ news', p.1 ∉ wr) ∧ J i m' news' ∧ i ≤ n ∧ k = n + 1 - i) ?_ (n + 1)
    ⟨s₂.heap, s₂.toks, m, news, 0, rfl, hst, F, N, hnw, h0, Nat.zero_le _, rfl⟩
  rintro k s' ⟨h', tk, m', news', i, rfl, hst', F', N', hnw', hJ, hi, rfl⟩
  have old : ∀ b o, h₀.get? b = some o → b ∉ wr := fun b o e hb => by rw [hBw b hb] at e; cases e
  have next : ∀ (h₁ h₂ : Heap) (mm : Str → Option Value), (∀ b o, b ∉ wr → h₁.get? b = some o → h₂.get? b = some o) → Fr h₀ env.locals h₁ mm → News h₀ env.locals h₁ news' → Fr h₀ env.locals h₂ mm ∧ News h₀ env.locals h₂ news' := fun h₁ h₂ mm hk FF NN =>
    ⟨⟨FF.ns.at' fun o e => hk _ o hLw e, fun b o e => hk b o (old b o e) (FF.keep b o e), FF.above⟩, fun p hp => ⟨hk _ _ (hnw' p hp) (NN p hp).1, (NN p hp).2⟩⟩
  by_cases hlt : i < n
  · refine W.item i _ _ _ hlt hst' fun T vals h₁ tk₁ hP hT₁ hmid hk₁ => ?_
    obtain ⟨va, vb, rfl⟩ := hsz i vals hP
    obtain ⟨F₁, N₁⟩ := next _ _ _ hk₁ F' N'
    dsimp only
    refine W.go _ _ _ i T _ _ _ hmid fun h₁' hst₁ hk₁' => ?_
    have hT₁' : h₁'.IsTuple T #[va, vb] := let ⟨o, e, r⟩ := hT₁; ⟨o, hk₁' _ o (W.apart i T _ hmid) e, r⟩
    obtain ⟨F₂, N₂⟩ := next _ _ _ hk₁' F₁ N₁
    refine wpAny_assign_Tuple hh hT₁' rfl rfl fun h₂ hx₂ => ?_
    have old₂ : ∀ b o, h₁'.get? b = some o → h₂.get? b = some o := fun b o e => hx₂ b o (Nat.ne_of_lt (Heap.lt_size e)) e
    obtain ⟨F₃, N₃⟩ := next _ _ _ (fun b o _ e => old₂ b o e) F₂ N₂
    show wpAny _ _ (do holding [vb] (assign (.Name xa pa) env va); do holding [] (assign (.Name xb pb) env vb); pure ()) _ _ _
    refine wpAny_bind (wpAny_holding (wpAny_assign_Name (wpAny_storeName_local hxa F₃.ns (fun h₃ hn₃ hs₃ => ?_) hp)))
    have F₄ := F₃.set hn₃ hs₃
    refine wpAny_bind (wpAny_holding (wpAny_assign_Name (wpAny_storeName_local hxb F₄.ns (fun h₄ hn₄ hs₄ => wpAny_pure ?_) hp)))
    have F₅ := F₄.set hn₄ hs₄
    have up : ∀ b o, b ≠ env.locals → h₁'.get? b = some o → h₄.get? b = some o := fun b o hb e => hs₄.extBut b o hb (hs₃.extBut b o hb (old₂ b o e))
    have hob : ∀ b ∈ wr, ∃ o, h₁'.get? b = some o := hio _ _ hst₁
    obtain ⟨ob, hob⟩ : ∃ ob : Addr → Obj, ∀ b ∈ wr, h₁'.get? b = some (ob b) := by
      refine ⟨fun b => (h₁'.get? b).getD ⟨.none, none, .plain, #[]⟩, fun b hb => ?_⟩
      obtain ⟨o, e⟩ := hob b hb
      dsimp only
      rw [e]; rfl
    have N₅ : News h₀ env.locals h₄ (wr.map (fun b => (b, ob b)) ++ news') := by
      intro p hp
      rcases List.mem_append.mp hp with hp | hp
      · obtain ⟨b, hb, rfl⟩ := List.mem_map.mp hp
        have hbL : b ≠ env.locals := fun z => hLw (z ▸ hb)
        exact ⟨up b _ hbL (hob b hb), hbL, hBw b hb⟩
      · have z := N₂ p hp
        exact ⟨up _ _ z.2.1 z.1, z.2⟩
    have hpass : PassesOwn (model prog w) A env (fun _ _ => False) := by passes_own
    refine wpAny_passesOwn hpass (step i va vb m' news' h₄ _ ob _ hlt hP hJ hnw' F₅ N₅ ?_ ?_)
    · intro h₅ tk₅ m₅ news₅ F₆ N₆ hne₆ hJ₆
      refine ⟨n + 1 - (i + 1), by omega, h₅, tk₅, m₅, news₅, i + 1, rfl, ?_, F₆, fun p hp => N₆ p (List.mem_append.mpr (.inr hp)), hne₆, hJ₆, hlt, rfl⟩
      refine W.frame _ _ _ hst₁ fun b hb o e => ?_
      by_cases hbw : b ∈ wr
      · rw [hob b hbw] at e; cases e
        exact (N₆ (b, ob b) (List.mem_append.mpr (.inl (List.mem_map.mpr ⟨b, hbw, rfl⟩)))).1
      · rcases hfp b hb with hb' | ⟨o', hm⟩
        · exact absurd hb' hbw
        · have e' := (N₂ _ (hJf _ _ _ hJ _ hm)).1
          rw [e'] at e; cases e
          exact (N₆ (b, o') (List.mem_append.mpr (.inr (hJf _ _ _ hJ₆ _ hm)))).1
    · exact fun v s' hv => hv
  · have hin : i = n := by omega
    subst hin
    refine W.done _ _ _ hst' fun h₁ tk₁ hk₁ => wpAny_execs_nil ?_
    obtain ⟨F₁, N₁⟩ := next _ _ _ hk₁ F' N'
    exact hQ h₁ tk₁ m' news' F₁ N₁ hJ
end
end Mine
set_option maxRecDepth 100000
set_option maxHeartbeats 1000000
namespace Mine
open PySem PySem.W PySem.Calls PyProof.Rows
theorem slicePick_to (items : Array Value) (k : Nat) : slicePick items none (some (k : Int)) none = (items.toList.take k).toArray := by
  by_cases hk : k ≤ items.size
  · exact slicePick_upto items k hk
  · have e : sliceBounds none (some (k : Int)) none items.size = sliceBounds none (some (items.size : Int)) none items.size := by
      simp only [sliceBounds, Option.getD_none, show (1 : Int) > 0 by decide, if_true]
      congr 2
      rw [if_neg (by omega), if_neg (by omega)]
      omega
    have e2 := slicePick_upto items items.size (Nat.le_refl _)
    unfold slicePick at e2 ⊢
    rw [e, e2]
    rw [List.take_of_length_le (by simp), List.take_of_length_le (by simp; omega)]
theorem sub_upto {prog : Program} {w : World} {A : Around} {E : Value → Shared → Prop} {s : Shared} {value : Expr} {lower upper : Option Expr} {sp : Pos} {l sl : Addr} {items : Array Value} {k : Nat} {t : Tok} {Q : Value → Shared → Prop}
    (hl : s.heap.IsList l items) (hs : s.heap.IsSliceOf sl .none (.int k t) .none) (hsz : items.size ≤ sizeLine)
    (h : Q (.ref s.heap.objs.size) { s with heap := s.heap.push (W.listOf (items.toList.take k).toArray 0) }) (ht : ∀ r, letTemporaryGo value (.ref l) r = pure () := by intro _; rfl) :
    wpAny (model prog w) A (subscriptTail value (.Slice lower upper none sp) (.ref l) (.ref sl)) Q E s := by
  refine subscriptTail_ops (ops := [.ref sl, .ref l]) hl.typeIs slot_list_getitem.lookup (wpAny_getItem_list_slice hl hs .none (.int k t) .none (by intro z; cases z) ?_ hsz) rfl ht
  rw [slicePick_to]
  exact h
theorem all_cons {α : Type} {P : α → Prop} {a : α} {l : List α} (h : P a) (t : ∀ p, p ∈ l → P p) : ∀ p, p ∈ a :: l → P p := List.forall_mem_cons.mpr ⟨h, t⟩
end Mine
set_option maxRecDepth 100000
set_option maxHeartbeats 1000000
namespace Mine
open PySem PySem.W PySem.Calls PyProof.Rows
open Sem (wp)
section
variable {M : Model} {A : Around} {R : GenEnd} {Y : Protocol} {n : Nat} {s₀ : Shared} {c : Code} {fs : List Frame} {s : Shared} {env : Env} {K : Flow → Sem Fin} {H : Value → Sem Fin} {gd : Bool → Bool} {lv : List Value → List Value}
/-- a for inside a generator -/
theorem seg_For {target iter : Expr} {body orelse : List Stmt} {pos : Pos} (hs : ∀ x, foldedSetIterable iter env x = pure x)
    (h : wpAny M (A.over c fs) (eval iter env) (fun x s₁ => wpAny M (A.over c fs) (pyIter x) (fun it s₂ => ∀ p, Seg M A R Y n s₀ (.forLoop target it body orelse env) (M.den (.forLoop target it body orelse env))
      (.ret (fun r => ((match r with | .ok f => (.pure f : Sem Flow) | .error e => .raise e).onRaise fun (x : Value) => do
        if (← field x 1) == Value.none then unsupported "frame.own-activation:exception-without-traceback"
        setFlight x env.frame).wrap K H gd lv) none (gd false) (lv []) c p [] :: fs) s₂) (fun x s' => Seg M A R Y n s₀ c (H x) fs s') s₁) (fun x s' => Seg M A R Y n s₀ c (H x) fs s') s) :
    Seg M A R Y n s₀ c ((exec (.For target iter body orelse pos) env).wrap K H gd lv) fs s := by
  rw [exec_For]
  refine seg_bind_wrap (wpAny_standAt ?_)
  refine seg_bind_wrap (wpAny_mono h (fun x s₁ h₁ => ?_) fun _ _ e => e)
  refine seg_bind_wrap (wpAny_of_eq (hs x) ?_)
  refine seg_bind_wrap (wpAny_standAt ?_)
  refine seg_bind_wrap (wpAny_holding (wpAny_mono h₁ (fun it s₂ h₂ => ?_) fun _ _ e => e))
  exact seg_call h₂
end
section
variable {prog : Program} {w : World} {A : Around} {R : GenEnd} {Y : Protocol} {n : Nat} {s₀ : Shared} {fs : List Frame} {s : Shared} {env : Env}
/-- one turn of a for inside a generator -/
theorem seg_forTurn {target : Expr} {it : Value} {body orelse : List Stmt} (hl : ∀ v, letOwnedTupleGo target it v = pure ())
    (h : wpAny (model prog w) (A.over (.forLoop target it body orelse env) fs) (pyNext it) (fun r s₁ => match r with
      | none => False
      | some v => wpAny (model prog w) (A.over (.forLoop target it body orelse env) fs) (assign target env v) (fun _ s₂ =>
          Seg (model prog w) A R Y n s₀ (.forLoop target it body orelse env) ((execs body env).wrap (fun f => match f with
            | .next | .cont => .pure (.again (.forLoop target it body orelse env))
            | .brk => .pure (.done .next)
            | .ret v => .pure (.done (.ret v))) (fun e => (do noteFrame e env; theTreesLotGoes e : Sem Unit).wrap (fun _ => .raise e) .raise id id) id id) fs s₂) (fun _ _ => False) s₁) (fun _ _ => False) s) :
    Seg (model prog w) A R Y n s₀ (.forLoop target it body orelse env) ((model prog w).den (.forLoop target it body orelse env)) fs s := by
  show Seg _ A R Y n s₀ _ ((forTurn target it body orelse env).onRaise (fun x => do noteFrame x env; theTreesLotGoes x)) fs s
  unfold forTurn
  rw [Sem.onRaise_eq_wrap]
  refine seg_bind_wrap (wpAny_standAt ?_)
  refine seg_bind_wrap (wpAny_onRaise (wpAny_mono h (fun r s₁ h₁ => ?_) fun _ _ e => e.elim))
  cases r with
  | none => exact h₁.elim
  | some v =>
    dsimp only at h₁ ⊢
    refine seg_bind_wrap (wpAny_of_eq (hl v) ?_)
    refine seg_bind_wrap (wpAny_mono h₁ (fun _ s₂ h₂ => ?_) fun _ _ e => e.elim)
    rw [Sem.bind_eq_wrap', Sem.wrap_wrap]
    refine Eq.mpr (congrArg (fun t => Seg (model prog w) A R Y n s₀ (.forLoop target it body orelse env) t fs s₂) ?_) h₂
    exact Sem.wrap_congr _ _ _ (fun f => by cases f <;> rfl) (fun e => Sem.bind_eq_wrap _ _)
end
end Mine
set_option maxRecDepth 100000
set_option maxHeartbeats 1000000
namespace Mine
open PySem PySem.W PySem.Calls PyProof.Rows
open Sem (wp)
noncomputable def nthS (l : List Stmt) (i : Nat) : Stmt := l.getD i (.Pass default)
noncomputable def forT : Stmt → Expr | .For t _ _ _ _ => t | _ => .Name "" default
noncomputable def forB : Stmt → List Stmt | .For _ _ b _ _ => b | _ => []
noncomputable def gFor : Stmt := nthS (defBody (cell 14)) 1
noncomputable abbrev envG (C : Addr) : Env := envOf (u "_grouping_intervals") (defScope (cell 14)) C 183 (.ref 182)
theorem filledGrp2 (P : Params) : PySem.Challenge.rw_wr0051_01 = PySem.Challenge.rw_wr0051_01 ∧ KK P = KK P := by k_fill; exact ⟨rfl, rfl⟩
section
variable {w : World} {mean : ExcName → Option Value} {mg mb : Str → Option Value} {B : Heap} {A : Around} {C : Addr} {h : Heap} {g : Array GenState} {d : Drawn} {tk : Nat} {os : OsState} {m : Str → Option Value} {v : Int} {t : Tok} {Q : Flow → Shared → Prop} {E : Value → Shared → Prop}
theorem if1_next (T : Top₁ mean mg mb B) (X : (KK w.params).In B) (F : Fr B C h m) (hA : A.handled = none) (hm : m (Str.ofString "interval") = some (.int v t)) (hv : v ≠ 127) (hQ : ∀ tk', Q .next ⟨h, g, d, tk', os⟩) :
    wpAny (M₁ w) A (exec (nthS (forB gFor) 0) (envG C)) Q E ⟨h, g, d, tk, os⟩ := by
  obtain ⟨ah, ad, af, ag, au⟩ := A
  obtain rfl : ah = none := hA
  have N : News B C h [] := News.nil
  show wpAny _ _ (exec (Stmt.If _ _ _ _) _) _ _ _
  repeat' (first | ((with_reducible show wpAny _ _ (eval (.Name (Str.ofString "interval") _) _) _ _ _); refine ld F hm ?_) | (k_unfold; (try dsimp only)) | (walk1; (try dsimp only)) | (dsimp only; walk1))
  all_goals first | exact hQ _ | exact absurd (by assumption) hv | exact absurd rfl (by assumption) | omega
theorem if1_ret (T : Top₁ mean mg mb B) (X : (KK w.params).In B) (F : Fr B C h m) (hA : A.handled = none) (hm : m (Str.ofString "interval") = some (.int 127 t)) (hQ : ∀ tk', Q (.ret .none) ⟨h, g, d, tk', os⟩) :
    wpAny (M₁ w) A (exec (nthS (forB gFor) 0) (envG C)) Q E ⟨h, g, d, tk, os⟩ := by
  obtain ⟨ah, ad, af, ag, au⟩ := A
  obtain rfl : ah = none := hA
  have N : News B C h [] := News.nil
  show wpAny _ _ (exec (Stmt.If _ _ _ _) _) _ _ _
  repeat' (first | ((with_reducible show wpAny _ _ (eval (.Name (Str.ofString "interval") _) _) _ _ _); refine ld F hm ?_) | (k_unfold; (try dsimp only)) | (walk1; (try dsimp only)) | (dsimp only; walk1))
  all_goals first | exact hQ _ | exact absurd (by assumption) hv | exact absurd rfl (by assumption) | omega
theorem if2_next (F : Fr B C h m) (hA : A.handled = none) (hm : m (Str.ofString "interval") = some (.int v t)) (hv : v ≠ 0) (hQ : ∀ tk', Q .next ⟨h, g, d, tk', os⟩) :
    wpAny (M₁ w) A (exec (nthS (forB gFor) 1) (envG C)) Q E ⟨h, g, d, tk, os⟩ := by
  obtain ⟨ah, ad, af, ag, au⟩ := A
  obtain rfl : ah = none := hA
  have N : News B C h [] := News.nil
  show wpAny _ _ (exec (Stmt.If _ _ _ _) _) _ _ _
  repeat' (first | ((with_reducible show wpAny _ _ (eval (.Name (Str.ofString "interval") _) _) _ _ _); refine ld F hm ?_) | (k_unfold; (try dsimp only)) | (walk1; (try dsimp only)) | (dsimp only; walk1))
  all_goals first | exact hQ _ | exact absurd (by assumption) hv | exact absurd rfl (by assumption) | omega
theorem asg_next (F : Fr B C h m) (hm : m (Str.ofString "interval") = some (.int v t)) (hQ : ∀ h' tk' m', Fr B C h' m' → Heap.SameBut C h h' → Q .next ⟨h', g, d, tk', os⟩) :
    wpAny (M₁ w) A (exec (nthS (forB gFor) 3) (envG C)) Q E ⟨h, g, d, tk, os⟩ := by
  show wpAny _ _ (exec (Stmt.Assign [Expr.Name _ _] _ _) _) _ _ _
  refine wpAny_Assign_Name (ld F hm (wpAny_storeName_local (by rfl) F.ns ?_))
  intro h' hn hs
  exact hQ h' _ _ (F.set hn hs) hs
theorem st0_next (F : Fr B C h m) (hQ : ∀ h' tk' m', m' (Str.ofString "grouping") = m (Str.ofString "grouping") → Fr B C h' m' → Heap.SameBut C h h' → Q .next ⟨h', g, d, tk', os⟩) :
    wpAny (M₁ w) A (exec (nthS (defBody (cell 14)) 0) (envG C)) Q E ⟨h, g, d, tk, os⟩ := by
  show wpAny _ _ (exec (Stmt.Assign [Expr.Name _ _] _ _) _) _ _ _
  refine wpAny_Assign_Name (wpAny_Constant_none (wpAny_storeName_local (by rfl) F.ns ?_))
  intro h' hn hs
  exact hQ h' _ _ (by rfl) (F.set hn hs) hs
end
section
variable {w : World} {mean : ExcName → Option Value} {mg mb : Str → Option Value} {B : Heap}
noncomputable def SinceG (C I : Addr) (s₀ s : Shared) : Prop := ∃ h tk, s = { s₀ with heap := h, toks := tk } ∧ ∀ b o, b ≠ C → b ≠ I → s₀.heap.get? b = some o → h.get? b = some o
theorem SinceG.refl (C I : Addr) (s : Shared) : SinceG C I s s := ⟨s.heap, s.toks, rfl, fun _ _ _ _ e => e⟩
theorem SinceG.step {C I : Addr} {s₀ s : Shared} (x : SinceG C I s₀ s) {h : Heap} {tk : Nat} (hk : ∀ b o, b ≠ C → b ≠ I → s.heap.get? b = some o → h.get? b = some o) : SinceG C I s₀ { s with heap := h, toks := tk } := by
  obtain ⟨h1, t1, rfl, k1⟩ := x
  exact ⟨h, tk, rfl, fun b o a c e => hk b o a c (k1 b o a c e)⟩
/-- what the generator hands out, and on what it goes on -/
noncomputable def protoG (B : Heap) (C D I : Addr) (its : Array Value) (n : Nat) : Protocol := fun m s₀ v s kap =>
  its[n - 1 - m]? = some v ∧ SinceG C I s₀ s ∧ (∃ oc, s.heap.get? C = some oc) ∧ (∃ oi, s.heap.get? I = some oi) ∧
    ∀ s'' : Shared, (∀ o, s.heap.get? C = some o → s''.heap.get? C = some o) → (∀ o, s.heap.get? I = some o → s''.heap.get? I = some o) → s''.heap.IsList D its → (∀ b o, B.get? b = some o → s''.heap.get? b = some o) → kap (.send .none) s''
noncomputable def endG (C I : Addr) : GenEnd := fun n s₀ r s₁ => r = .ok (.ret .none) ∧ (n = 0 ∧ SinceG C I s₀ s₁)
/-- the list's numbers: n that are handed out, a 127, whatever -/
structure GItems (its : Array Value) (n : Nat) : Prop where
  out : ∀ i, i < n → ∃ v t, its[i]? = some (.int v t) ∧ v ≠ 0 ∧ v ≠ 127
  stop : ∃ t, its[n]? = some (.int 127 t)
theorem seg_group (T : Top₁ mean mg mb B) (X : (KK w.params).In B) {A : Around} {C D I : Addr} {its : Array Value} {n : Nat} {fs : List Frame} (G : GItems its n) (hCI : C ≠ I) (hDC : D ≠ C) (hDI : D ≠ I) (hBI : B.get? I = none) (hfs : splitAtGen fs = none) (hfg : fs.any Frame.guarded = false) (hh : (A.over (.forLoop (forT gFor) (.ref I) (forB gFor) [] (envG C)) fs).handled = none)
    (hret : ∀ s₀ s₁, SinceG C I s₀ s₁ → Seg (M₁ w) A (endG C I) (protoG B C D I its n) 0 s₀ (.forLoop (forT gFor) (.ref I) (forB gFor) [] (envG C)) (leafOf (.ok (.ret .none))) fs s₁) :
    ∀ (k i : Nat) (s₀ s : Shared) (m : Str → Option Value), n - i = k → i ≤ n → Fr B C s.heap m → s.heap.IsListIter I D i → s.heap.IsList D its → SinceG C I s₀ s →
      Seg (M₁ w) A (endG C I) (protoG B C D I its n) (n - i) s₀ (.forLoop (forT gFor) (.ref I) (forB gFor) [] (envG C)) ((M₁ w).den (.forLoop (forT gFor) (.ref I) (forB gFor) [] (envG C))) fs s := by
  have turn : ∀ (i : Nat) (s₀ s : Shared) (m : Str → Option Value) (v : Int) (t : Tok) (n' : Nat), its[i]? = some (.int v t) → Fr B C s.heap m → s.heap.IsListIter I D i → s.heap.IsList D its → SinceG C I s₀ s →
      (∀ s₂ m₂, m₂ (Str.ofString "interval") = some (.int v t) → Fr B C s₂.heap m₂ → s₂.heap.IsListIter I D (i + 1) → s₂.heap.IsList D its → SinceG C I s₀ s₂ →
        Seg (M₁ w) A (endG C I) (protoG B C D I its n) n' s₀ (.forLoop (forT gFor) (.ref I) (forB gFor) [] (envG C)) ((execs (forB gFor) (envG C)).wrap (fun f => match f with
            | .next | .cont => .pure (.again (.forLoop (forT gFor) (.ref I) (forB gFor) [] (envG C)))
            | .brk => .pure (.done .next)
            | .ret v => .pure (.done (.ret v))) (fun e => (do noteFrame e (envG C); theTreesLotGoes e : Sem Unit).wrap (fun _ => .raise e) .raise id id) id id) fs s₂) →
      Seg (M₁ w) A (endG C I) (protoG B C D I its n) n' s₀ (.forLoop (forT gFor) (.ref I) (forB gFor) [] (envG C)) ((M₁ w).den (.forLoop (forT gFor) (.ref I) (forB gFor) [] (envG C))) fs s := by
    intro i s₀ s m v t n' hv F hit hl hs hbody
    refine seg_forTurn (fun v => rfl) ?_
    refine wpAny_pyNext_list_item hit hl hv fun h₁ hit₁ hs₁ => ?_
    have ns₁ : h₁.Ns C m := F.ns.at' fun o e => hs₁.extBut C o hCI e
    refine wpAny_assign_Name (wpAny_storeName_local (env := envG C) (by rfl) ns₁ (fun h₂ hn₂ hs₂ => ?_))
    have F₂ : Fr B C h₂ (fun x => if x = Str.ofString "interval" then some (.int v t) else m x) :=
      ⟨hn₂, fun b o e => hs₂.extBut b o (Nat.ne_of_lt (Nat.lt_of_lt_of_le (Heap.lt_size e) F.above)) (hs₁.extBut b o (fun z => by rw [z, hBI] at e; cases e) (F.keep b o e)), F.above⟩
    exact hbody _ _ (by simp) F₂ (hit₁.extBut hs₂.extBut (Ne.symm hCI)) ((hl.extBut hs₁.extBut hDI).extBut hs₂.extBut hDC) (hs.step fun b o a c e => hs₂.extBut b o a (hs₁.extBut b o c e))
  intro k
  induction k with
  | zero =>
    intro i s₀ s m hk hi F hit hl hs
    obtain rfl : i = n := by omega
    obtain ⟨t, ht⟩ := G.stop
    rw [Nat.sub_self]
    refine turn i s₀ s m 127 t 0 ht F hit hl hs fun s₂ m₂ hm₂ F₂ hit₂ hl₂ hs₂ => ?_
    refine seg_execs_cons ?_
    obtain ⟨h2, g2, d2, t2, o2⟩ := s₂
    refine seg_wrap (if1_ret T X F₂ hh hm₂ fun tk' => ?_)
    exact hret _ _ (hs₂.step fun _ _ _ _ e => e)
  | succ k ih =>
    intro i s₀ s m hk hi F hit hl hs
    have hlt : i < n := by omega
    obtain ⟨v, t, hv, hv0, hv1⟩ := G.out i hlt
    obtain ⟨n', hn'⟩ : ∃ n', n - i = n' + 1 := ⟨n - i - 1, by omega⟩
    rw [hn']
    refine turn i s₀ s m v t (n' + 1) hv F hit hl hs fun s₂ m₂ hm₂ F₂ hit₂ hl₂ hs₂ => ?_
    obtain ⟨h2, g2, d2, t2, o2⟩ := s₂
    refine seg_execs_cons ?_
    refine seg_wrap (if1_next T X F₂ hh hm₂ hv1 fun tk' => ?_)
    refine seg_execs_cons ?_
    refine seg_wrap (if2_next (B := B) F₂ hh hm₂ hv0 fun tk' => ?_)
    refine seg_execs_cons ?_
    refine seg_Expr_Yield hfs rfl hfg (ld F₂ hm₂ ?_)
    intro kap hkap
    refine ⟨?_, hs₂.step fun _ _ _ _ e => e, ?_, ?_, fun s'' hC hI hD hB => hkap .none s'' ?_⟩
    · rw [show n - 1 - n' = i by omega]; exact hv
    · obtain ⟨o, _, _, e, _⟩ := F₂.ns; exact ⟨o, e⟩
    · obtain ⟨o, e, _⟩ := hit₂; exact ⟨o, e⟩
    · dsimp only
      obtain ⟨h3, g3, d3, t3, o3⟩ := s''
      have F₃ : Fr B C h3 m₂ := ⟨F₂.ns.at' hC, hB, F₂.above⟩
      have hit₃ : h3.IsListIter I D (i + 1) := hit₂.at hI
      refine seg_execs_cons ?_
      refine seg_wrap (asg_next F₃ hm₂ fun h' tk'' m' F' hs' => ?_)
      refine seg_execs_nil ?_
      refine seg_again rfl ?_
      rw [show n' = n - (i + 1) by omega]
      exact ih (i + 1) _ _ m' (by omega) (by omega) F' (hit₃.extBut hs'.extBut (Ne.symm hCI)) (Heap.IsList.extBut hD hs'.extBut hDC) ((SinceG.refl C I _).step fun b o a c e => hs'.extBut b o a e)
end
end Mine
set_option maxRecDepth 100000
set_option maxHeartbeats 1000000
namespace Mine
open PySem PySem.W PySem.Calls PyProof.Rows
open Sem (wp)
section
variable {w : World} {mean : ExcName → Option Value} {mg mb : Str → Option Value} {B : Heap}
theorem group_fresh (T : Top₁ mean mg mb B) (X : (KK w.params).In B) {A : Around} {C D : Addr} {its : Array Value} {n : Nat} {s : Shared} {m : Str → Option Value} (G : GItems its n) (hA : A.handled = none) (F : Fr B C s.heap m) (hm : m (Str.ofString "grouping") = some (.ref D)) (hl : s.heap.IsList D its) (hDC : D ≠ C) :
    (GenState.fresh (.func (defBody (cell 14)) (envG C))).Goes (M₁ w) A (endG C s.heap.objs.size) (protoG B C D s.heap.objs.size its n) n (.send .none) s := by
  refine ⟨rfl, ?_⟩
  refine seg_func ?_
  refine seg_execs_cons ?_
  obtain ⟨h, g, d, tk, os⟩ := s
  refine seg_wrap (st0_next F fun h' tk' m' hm' F' hs' => ?_)
  refine seg_execs_cons ?_
  have hsz : h'.objs.size = h.objs.size := hs'.1
  have hl' : h'.IsList D its := Heap.IsList.extBut hl hs'.extBut hDC
  refine seg_For (fun _ => rfl) ?_
  refine ld F' (hm'.trans hm) ?_
  refine wpAny_pyIter_list hl' ?_
  intro p
  dsimp only
  have F₂ : Fr B C (h'.push { cls := .type "list_iterator", data := .fields #[.ref D, .int 0 0] }) m' := F'.push _
  rw [hsz]
  have hCI : C ≠ h.objs.size := Nat.ne_of_lt (hsz ▸ F'.ns.lt)
  have hDI : D ≠ h.objs.size := by
    obtain ⟨o, e, _⟩ := hl'
    exact Nat.ne_of_lt (hsz ▸ Heap.lt_size e)
  have hBI : B.get? h.objs.size = none := by
    cases q : B.get? h.objs.size with
    | none => rfl
    | some o => exact absurd (Heap.lt_size (F'.keep _ _ q)) (by rw [hsz]; exact Nat.lt_irrefl _)
  refine seg_group (n := n) T X G hCI hDC hDI hBI ?_ ?_ ?_ ?_ n 0 _ _ _ rfl (Nat.zero_le _) F₂ ?_ (hl'.push _) ?_
  · rfl
  · rfl
  · exact hA
  · intro s₀ s₁ hs
    refine seg_leaf (.ok (.ret .none)) ?_
    exact seg_end (.ok (.ret .none)) ⟨rfl, rfl, hs⟩
  · exact ⟨_, by rw [← hsz]; exact Heap.get?_push_size _ rfl, rfl, rfl⟩
  · exact (SinceG.refl C _ _).step fun b o a c e => Heap.get?_push_of_some _ (hs'.extBut b o a e)
end
end Mine
set_option maxRecDepth 100000
set_option maxHeartbeats 1000000
namespace Mine
open PySem PySem.W PySem.Calls PyProof.Rows
open Sem (wp)
/-- an object that is a namespace -/
noncomputable def NsObj (o : Obj) (m : Str → Option Value) : Prop := ∃ es ep, o.data = .dict es ep ∧ StrKeys es ∧ ∀ name, nsFind es name = m name
theorem NsObj.ns {o : Obj} {m : Str → Option Value} {h : Heap} {a : Addr} (x : NsObj o m) (e : h.get? a = some o) : h.Ns a m := let ⟨es, ep, r⟩ := x; ⟨o, es, ep, e, r⟩
theorem Ns.obj {m : Str → Option Value} {h : Heap} {a : Addr} (x : h.Ns a m) : ∃ o, h.get? a = some o ∧ NsObj o m := let ⟨o, es, ep, e, r⟩ := x; ⟨o, e, es, ep, r⟩
noncomputable abbrev genO (gi : Nat) (nm qn : Value) : Obj := ⟨.type "generator", none, .fields #[.int gi 0, nm, qn], #[]⟩
/-- the generator, i of its n numbers handed out -/
noncomputable def GrpAt (w : World) (B : Heap) (A : Around) (C D : Addr) (its : Array Value) (n i : Nat) (oc : Obj) (own : Option (Addr × Obj)) (gs : GenState) : Prop :=
  match own with
  | none => i = 0 ∧ gs = .fresh (.func (defBody (cell 14)) (envG C)) ∧ ∃ m, NsObj oc m ∧ m (Str.ofString "grouping") = some (.ref D)
  | some (I, oi) => ∀ s'' : Shared, s''.heap.get? C = some oc → s''.heap.get? I = some oi → s''.heap.IsList D its → (∀ b o, B.get? b = some o → s''.heap.get? b = some o) →
      gs.Goes (M₁ w) A (endG C I) (protoG B C D I its n) (n - i) (.send .none) s''
section
variable {w : World} {mean : ExcName → Option Value} {mg mb : Str → Option Value} {B : Heap}
theorem next_group (T : Top₁ mean mg mb B) (X : (KK w.params).In B) {A : Around} {L C D a : Addr} {its : Array Value} {n i gi : Nat} {h : Heap} {g : Array GenState} {d : Drawn} {tk : Nat} {os : OsState} {m : Str → Option Value} {nw : List (Addr × Obj)} {oc : Obj} {own : Option (Addr × Obj)} {gs : GenState} {nm qn : Value} {c : Nat} {Q : Option Value → Shared → Prop} {E : Value → Shared → Prop}
    (G : GItems its n) (hh : A.handled = none) (hroom : A.depth < recursionLimit) (F : Fr B L h m) (N : News B L h ((C, oc) :: (own.toList ++ nw))) (ha : (a, genO gi nm qn) ∈ nw) (hD : (D, W.listOf its c) ∈ nw) (hne : ∀ p ∈ nw, p.1 ≠ C ∧ ∀ q ∈ own.toList, p.1 ≠ q.1) (hCo : ∀ q ∈ own.toList, q.1 ≠ C) (hBC : B.objs.size ≤ C)
    (hi : i ≤ n) (hgs : g[gi]? = some gs) (hG : GrpAt w B A.in1 C D its n i oc own gs)
    (hsome : i < n → ∀ v h' g' tk' I oc' oi' gs', its[i]? = some v → (∀ p ∈ nw, p.1 ≠ I) → I ≠ C → I ≠ L → Fr B L h' m → News B L h' ((C, oc') :: (I, oi') :: nw) → g'[gi]? = some gs' → GrpAt w B A.in1 C D its n (i + 1) oc' (some (I, oi')) gs' → GenOnly gi g g' → Q (some v) ⟨h', g', d, tk', os⟩)
    (hnone : i = n → ∀ h' g' tk', Fr B L h' m → News B L h' nw → g'[gi]? = some .finished → GenOnly gi g g' → Q none ⟨h', g', d, tk', os⟩) :
    wpAny (M₁ w) A (pyNext (.ref a)) Q E ⟨h, g, d, tk, os⟩ := by
  -- the iterator's place, and that the generator goes on
  obtain ⟨I, hIL, hIC, hInw, hBI, hgo, hkeepI⟩ : ∃ I, I ≠ L ∧ I ≠ C ∧ (∀ p ∈ nw, p.1 ≠ I) ∧ B.get? I = none ∧ gs.Goes (M₁ w) A.in1 (endG C I) (protoG B C D I its n) (n - i) (.send .none) ((⟨h, g, d, tk, os⟩ : Shared).setGen gi .running) ∧ True := by
    have hl : h.IsList D its := ⟨_, (N _ (.tail _ (List.mem_append.mpr (.inr hD)))).1, rfl, _, rfl⟩
    cases own with
    | none =>
      obtain ⟨rfl, rfl, mC, hns, hmC⟩ := hG
      have FC : Fr B C h mC := ⟨hns.ns (N _ (.head _)).1, F.keep, hBC⟩
      have hlt : ∀ p ∈ (C, oc) :: (([] : List (Addr × Obj)) ++ nw), p.1 < h.objs.size := fun p hp => Heap.lt_size (N p hp).1
      refine ⟨h.objs.size, Nat.ne_of_gt F.ns.lt, Nat.ne_of_gt (hlt _ (.head _)), fun p hp => Nat.ne_of_lt (hlt p (.tail _ hp)), get_none_of_size (frame_size F), ?_, trivial⟩
      exact group_fresh (s := (⟨h, g, d, tk, os⟩ : Shared).setGen gi .running) T X G hh FC hmC hl (hne _ hD).1
    | some q =>
      obtain ⟨I, oi⟩ := q
      have zI := N (I, oi) (.tail _ (.head _))
      refine ⟨I, zI.2.1, hCo _ (.head _), fun p hp => (hne p hp).2 _ (.head _), zI.2.2, ?_, trivial⟩
      exact hG _ (N _ (.head _)).1 zI.1 hl F.keep
  have hCL : C ≠ L := (N _ (.head _)).2.1
  have kept : ∀ s₁ : Shared, SinceG C I ((⟨h, g, d, tk, os⟩ : Shared).setGen gi .running) s₁ → ∃ h₁ tk₁, s₁ = ⟨h₁, (g.set! gi .running), d, tk₁, os⟩ ∧ Fr B L h₁ m ∧ News B L h₁ nw := by
    rintro s₁ ⟨h₁, tk₁, rfl, hk⟩
    refine ⟨h₁, tk₁, rfl, ⟨F.ns.at' fun o e => hk L o (Ne.symm hCL) (Ne.symm hIL) e, fun b o e => hk b o (fun z => ?_) (fun z => by rw [z, hBI] at e; cases e) (F.keep b o e), F.above⟩, fun p hp => ?_⟩
    · rw [z] at e; exact absurd (Heap.lt_size e) (Nat.not_lt.mpr hBC)
    · have z := N p (.tail _ (List.mem_append.mpr (.inr hp)))
      exact ⟨hk _ _ (hne p hp).1 (hInw p hp) z.1, z.2⟩
  have hag : h.IsGen a gi := ⟨_, nm, qn, (N _ (.tail _ (List.mem_append.mpr (.inr ha)))).1, rfl, rfl, rfl⟩
  refine wpAny_pyNext_gen (P := fun n s₀ s₁ => n = 0 ∧ SinceG C I s₀ s₁) hh (T.nolimit.keeps F.keep) hroom hag hgs hgo (fun v s₁ gs' hv => ?_) (fun s₁ hp h' hk => ?_)
  · obtain ⟨hit, hs, ⟨oc', hoc⟩, ⟨oi', hoi⟩, hkap⟩ := hv
    obtain ⟨h₁, tk₁, rfl, F₁, N₁⟩ := kept s₁ hs
    have hl₁ : h₁.IsList D its := ⟨_, (N₁ _ hD).1, rfl, _, rfl⟩
    cases hni : n - i with
    | zero =>
      rw [hni] at hkap
      exact (hkap ⟨h₁, g.set! gi .running, d, tk₁, os⟩ (fun _ e => e) (fun _ e => e) hl₁ F₁.keep).elim
    | succ n' =>
      rw [hni] at hkap hit
      have hlt : i < n := by omega
      have hs1 : ((⟨h, g, d, tk, os⟩ : Shared).setGen gi .running).gens[gi]? = some .running := setGen_self (s := ⟨h, g, d, tk, os⟩) hgs
      refine hsome hlt v h₁ _ tk₁ I oc' oi' gs' (by rw [show n - 1 - (n' + 1 - 1) = i by omega] at hit; exact hit) hInw hIC hIL F₁ (fun p hp => ?_) (setGen_self (s := ⟨h₁, g.set! gi .running, d, tk₁, os⟩) hs1) (fun s'' eC eI eD eB => ?_) ((GenOnly.setGen ⟨h, g, d, tk, os⟩ gi .running).trans (GenOnly.setGen ⟨h₁, g.set! gi .running, d, tk₁, os⟩ gi gs'))
      · rcases List.mem_cons.mp hp with rfl | hp
        · exact ⟨hoc, hCL, (N _ (.head _)).2.2⟩
        rcases List.mem_cons.mp hp with rfl | hp
        · exact ⟨hoi, hIL, hBI⟩
        · exact N₁ p hp
      · rw [show n - (i + 1) = n' by omega]
        exact hkap s'' (fun o e => by rw [eC]; exact hoc.symm.trans e) (fun o e => by rw [eI]; exact hoi.symm.trans e) eD eB
  · obtain ⟨hp0, hs⟩ := hp
    obtain ⟨h₁, tk₁, rfl, F₁, N₁⟩ := kept s₁ hs
    have hs1 : ((⟨h, g, d, tk, os⟩ : Shared).setGen gi .running).gens[gi]? = some .running := setGen_self (s := ⟨h, g, d, tk, os⟩) hgs
    exact hnone (by omega) h' _ tk₁ ⟨F₁.ns.at' fun o e => hk _ o e, fun b o e => hk b o (F₁.keep b o e), F₁.above⟩ (fun p hp => ⟨hk _ _ (N₁ p hp).1, (N₁ p hp).2⟩) (setGen_self (s := ⟨h₁, g.set! gi .running, d, tk₁, os⟩) hs1) ((GenOnly.setGen ⟨h, g, d, tk, os⟩ gi .running).trans (GenOnly.setGen ⟨h₁, g.set! gi .running, d, tk₁, os⟩ gi .finished))
end
end Mine
set_option maxRecDepth 100000
set_option maxHeartbeats 1000000
namespace Mine
open PySem PySem.W PySem.Calls PyProof.Rows
open Sem (wp)
/-- what a loop over the generator must bring -/
noncomputable def LoopG (w : World) (B : Heap) (A : Around) (env : Env) (x : Str) (body : List Stmt) (Q : Flow → Shared → Prop) (it : Value) (s₂ : Shared) : Prop :=
  ∃ (C D a : Addr) (its : Array Value) (n gi c : Nat) (oc : Obj) (gs : GenState) (nm qn : Value) (m : Str → Option Value) (nw : List (Addr × Obj)) (J : Nat → (Str → Option Value) → List (Addr × Obj) → Prop),
    it = .ref a ∧ GItems its n ∧ B.objs.size ≤ C ∧ s₂.gens[gi]? = some gs ∧ GrpAt w B A.in1 C D its n 0 oc none gs ∧ Fr B env.locals s₂.heap m ∧ News B env.locals s₂.heap ((C, oc) :: nw) ∧ (∀ p ∈ nw, p.1 ≠ C) ∧ J 0 m nw ∧
    (∀ i m' n', J i m' n' → (a, genO gi nm qn) ∈ n' ∧ (D, W.listOf its c) ∈ n') ∧
    (∀ i v m₁ nw₁ h₁ tk₁ g₁ I oc₁ oi₁ (Q' : Flow → Shared → Prop), i < n → its[i]? = some v → J i m₁ nw₁ → (∀ p ∈ nw₁, p.1 ≠ C ∧ p.1 ≠ I) → Fr B env.locals h₁ (put m₁ x v) → News B env.locals h₁ ((C, oc₁) :: (I, oi₁) :: nw₁) →
      (∀ h₂ tk₂ m₂ nw₂, Fr B env.locals h₂ m₂ → News B env.locals h₂ ((C, oc₁) :: (I, oi₁) :: nw₂) → (∀ p ∈ nw₂, p.1 ≠ C ∧ p.1 ≠ I) → J (i + 1) m₂ nw₂ → Q' .next { s₂ with heap := h₂, gens := g₁, toks := tk₂ }) →
      wpAny (M₁ w) A (execs body env) Q' (fun _ _ => False) { s₂ with heap := h₁, gens := g₁, toks := tk₁ }) ∧
    ∀ h' tk g' m' nw', Fr B env.locals h' m' → News B env.locals h' nw' → J n m' nw' → g'[gi]? = some .finished → GenOnly gi s₂.gens g' → Q .next { s₂ with heap := h', gens := g', toks := tk }
section
variable {w : World} {mean : ExcName → Option Value} {mg mb : Str → Option Value} {B : Heap}
theorem for_grp (T : Top₁ mean mg mb B) (X : (KK w.params).In B) {A : Around} {env : Env} {s : Shared} {x : Str} {px pos : Pos} {iter : Expr} {body : List Stmt} {Q : Flow → Shared → Prop} (hh : A.handled = none) (hroom : A.depth < recursionLimit) (hx : env.kindOf x = some .local)
    (hp : (env.scope.kind == .class || (env.scope.kind == .module && env.locals != env.globals)) = false)
    (h : wpAny (M₁ w) A (eval iter env) (fun xv s₁ => wpAny (M₁ w) A (pyIter xv) (fun it s₂ => LoopG w B A env x body Q it s₂) (fun _ _ => False) s₁) (fun _ _ => False) s)
    (hs : ∀ x, foldedSetIterable iter env x = pure x := by intro _; rfl) :
    wpAny (M₁ w) A (exec (.For (.Name x px) iter body [] pos) env) Q (fun _ _ => False) s := by
  refine wpAny_For (wpAny_mono h (fun xv s₁ h₁ => wpAny_mono h₁ (fun it s₂ h₂ => ?_) fun _ _ e => e) fun _ _ e => e) hs
  obtain ⟨C, D, a, its, n, gi, c, oc, gs, nm, qn, m, nw, J, rfl, G, hBC, hgs, hG, F, N, hC, h0, hJf, step, hQ⟩ := h₂
  refine codeAny_forLoop (R := fun r s' => match r with | .ok f => Q f s' | .error e => cameBackBy (M₁ w) A env (fun _ _ => False) e s')
    (fun k s' => ∃ h' g' tk m' nw' oc' own gs' i, s' = { s₂ with heap := h', gens := g', toks := tk } ∧ Fr B env.locals h' m' ∧ News B env.locals h' ((C, oc') :: (own.toList ++ nw')) ∧ (∀ p ∈ nw', p.1 ≠ C ∧ ∀ q ∈ own.toList, p.1 ≠ q.1) ∧ (∀ q ∈ own.toList, q.1 ≠ C) ∧
      g'[gi]? = some gs' ∧ GrpAt w B A.in1 C D its n i oc' own gs' ∧ GenOnly gi s₂.gens g' ∧ J i m' nw' ∧ i ≤ n ∧ k = n + 1 - i) ?_ (n + 1)
    ⟨s₂.heap, s₂.gens, s₂.toks, m, nw, oc, none, gs, 0, rfl, F, N, fun p hp => ⟨hC p hp, fun q hq => nomatch hq⟩, fun q hq => (nomatch hq), hgs, hG, ⟨rfl, fun _ _ => rfl⟩, h0, Nat.zero_le _, rfl⟩
  rintro k s' ⟨h', g', tk, m', nw', oc', own, gs', i, rfl, F', N', hne, hCo, hgs', hG', hgo, hJ, hi, rfl⟩
  obtain ⟨ja, jD⟩ := hJf _ _ _ hJ
  refine next_group T X G hh hroom F' N' ja jD hne hCo hBC hi hgs' hG' ?_ ?_
  · intro hlt v h₁ g₁ tk₁ I oc₁ oi₁ gs₁ hv hI hIC hIL F₁ N₁ hgs₁ hG₁ hgo₁
    dsimp only
    refine wpAny_assign_Name (wpAny_storeName_local hx F₁.ns (fun h₂ hn₂ hs₂ => ?_) hp)
    have F₂ := F₁.set hn₂ hs₂
    have N₂ : News B env.locals h₂ ((C, oc₁) :: (I, oi₁) :: nw') := N₁.set hs₂
    have hpass : PassesOwn (M₁ w) A env (fun _ _ => False) := by passes_own
    refine wpAny_passesOwn hpass (wpAny_mono (step i v m' nw' h₂ _ g₁ I oc₁ oi₁ (fun f s₃ => match f with
          | .next | .cont => ∃ m, m < n + 1 - i ∧ _
          | .brk => _
          | .ret v => _) hlt hv hJ (fun p hp => ⟨(hne p hp).1, hI p hp⟩) F₂ N₂ ?_) (fun f s₃ z => z) fun _ _ z => z)
    intro h₃ tk₃ m₂ nw₂ F₃ N₃ hne₃ hJ₃
    refine ⟨n + 1 - (i + 1), by omega, h₃, g₁, tk₃, m₂, nw₂, oc₁, some (I, oi₁), gs₁, i + 1, rfl, F₃, N₃, ?_, ?_, hgs₁, hG₁, hgo.trans hgo₁, hJ₃, hlt, rfl⟩
    · intro p hp
      refine ⟨(hne₃ p hp).1, fun q hq => ?_⟩
      rcases List.mem_cons.mp hq with rfl | hq
      · exact (hne₃ p hp).2
      · cases hq
    · intro q hq
      rcases List.mem_cons.mp hq with rfl | hq
      · exact hIC
      · cases hq
  · intro hin h₁ g₁ tk₁ F₁ N₁ hfin hgo₁
    subst hin
    exact wpAny_execs_nil (hQ h₁ tk₁ g₁ m' nw' F₁ N₁ hJ hfin (hgo.trans hgo₁))
end
end Mine
set_option maxRecDepth 100000
set_option maxHeartbeats 1000000
namespace Mine
open PySem PySem.W PySem.Calls PyProof.Rows
open Sem (wp)
/-- the generator function is called: a generator that has not begun -/
theorem spec_group {w : World} {mean : ExcName → Option Value} {mg mb : Str → Option Value} {B : Heap} (T : Top₁ mean mg mb B) (X : (KK w.params).In B)
    {A A₁ : Around} {L D c : Addr} {h : Heap} {g : Array GenState} {d : Drawn} {tk : Nat} {os : OsState} {news : List (Addr × Obj)} {m : Str → Option Value} {its : Array Value} {n : Nat} {Q E : Value → Shared → Prop}
    (F : Fr B L h m) (N : News B L h news) (hD : (D, W.listOf its c) ∈ news) (hd : A.depth < recursionLimit)
    (hQ : ∀ h' tk' a C oc nm qn gs, (∀ p ∈ news, p.1 < C) → L < C → C < a → B.objs.size ≤ C → gs.bare = true → GrpAt w B A₁ C D its n 0 oc none gs → Fr B L h' m → News B L h' ((a, genO g.size nm qn) :: (C, oc) :: news) → Q (.ref a) ⟨h', g.push gs, d, tk', os⟩) :
    wpAny (M₁ w) A (call (.ref 183) [.ref D]) Q E ⟨h, g, d, tk, os⟩ := by
  have X' : (KK w.params).In h := X.keeps F.keep
  have hfn : (KK w.params).lookup 183 = some (o183 w.params) := rfl
  have hcd : h.CodeRec (.ref 182) (u "_grouping_intervals") := codeRec_of X' (by rfl)
  refine wpAny_call (codeAny_call_generator (body := defBody (cell 14)) hd (X' _ _ hfn) rfl rfl rfl rfl hcd ?_)
  refine wpAny_of_eq (a := [(u "grouping", Value.ref D)]) (by rfl) ?_
  refine wpAny_newFunctionEnv (by decide) (locs (by rfl)) ?_ (by rfl)
  intro h₁ hns hsb
  have hk₁ : ∀ b o, h.get? b = some o → h₁.get? b = some o := fun b o e => hsb.extBut b o (Nat.ne_of_lt (Heap.lt_size e)) (Heap.get?_push_of_some _ e)
  refine ⟨(T.nolimit.keeps F.keep).keeps hk₁, ?_⟩
  obtain ⟨oc, hoc, hobj⟩ := Ns.obj hns
  have hsz : h₁.objs.size = h.objs.size + 1 := by rw [hsb.1]; exact Heap.size_push ..
  have F₁ : Fr B L h₁ m := ⟨F.ns.at' fun o e => hk₁ _ o e, fun b o e => hk₁ b o (F.keep b o e), F.above⟩
  have N₁ : News B L h₁ ((h.objs.size, oc) :: news) := by
    intro p hp
    rcases List.mem_cons.mp hp with rfl | hp
    · exact ⟨hoc, Nat.ne_of_gt F.ns.lt, get_none_of_size (frame_size F)⟩
    · exact ⟨hk₁ _ _ (N p hp).1, (N p hp).2⟩
  refine hQ _ _ h₁.objs.size h.objs.size oc _ _ _ (fun p hp => Heap.lt_size (N p hp).1) F.ns.lt (by rw [hsz]; exact Nat.lt_succ_self _) (frame_size F) ?_ ⟨rfl, rfl, _, hobj, rfl⟩ (F₁.push _) (N₁.push F₁ _)
  rfl
end Mine
set_option maxRecDepth 100000
set_option maxHeartbeats 1000000
namespace Mine
open PySem PySem.W PySem.Calls PyProof.Rows
noncomputable def startF (n : Int) : Int := if n.fmod 12 < 2 then -32 * n.fmod 12 else 119711 + 52 * ([0, 1, 2, 4, 7, 8, 9, 10, 11, 12] : List Int).getD (n.fmod 12 - 2).toNat 0
noncomputable def codeF (n : Int) : Int := if (n.fdiv 12).fmod 27 < 11 then ([173, 847, 6150, 6155, 6156, 6157, 8203, 8204, 8205, 8288, 65279] : List Int).getD ((n.fdiv 12).fmod 27).toNat 0 else 65013 + (n.fdiv 12).fmod 27
noncomputable abbrev mT (c : Str) (t1 : Tok) (n : Int) (t2 : Tok) : Str → Option Value := fun x => [(u "letter", Value.str c t1), (u "n", Value.int n t2)].reverse.lookup x

noncomputable def typedS (c : Str) (n : Int) : Str :=
  if (c == u "f") = true ∧ 1 < n.fmod 5 then Str.mk #[Int.toNat 64257] ++ Str.mk #[(codeF n).toNat]
  else Str.mk #[(startF n + 102).toNat] ++ Str.mk #[(codeF n).toNat] ++ (if (c == u "f") = true then Str.mk #[(startF n + 105).toNat] else u "")
theorem startF_range {n : Int} (hn : 0 ≤ n) : -32 ≤ startF n ∧ startF n ≤ 119711 + 52 * 12 := by
  have h0 := Int.fmod_nonneg (a := n) (b := 12) hn (by decide)
  have h1 := Int.fmod_lt_of_pos n (show (0 : Int) < 12 by decide)
  unfold startF
  generalize n.fmod 12 = r at *
  obtain ⟨k, rfl⟩ := Int.eq_ofNat_of_zero_le h0
  have hall : ∀ k : Fin 12, -32 ≤ (if ((k : Nat) : Int) < 2 then -32 * ((k : Nat) : Int) else 119711 + 52 * ([0, 1, 2, 4, 7, 8, 9, 10, 11, 12] : List Int).getD (((k : Nat) : Int) - 2).toNat 0) ∧ (if ((k : Nat) : Int) < 2 then -32 * ((k : Nat) : Int) else 119711 + 52 * ([0, 1, 2, 4, 7, 8, 9, 10, 11, 12] : List Int).getD (((k : Nat) : Int) - 2).toNat 0) ≤ 119711 + 52 * 12 := by decide +kernel
  exact hall ⟨k, Int.ofNat_lt.mp h1⟩
theorem codeF_range {n : Int} (hn : 0 ≤ n) : 173 ≤ codeF n ∧ codeF n ≤ 65279 := by
  have h2 : 0 ≤ n.fdiv 12 := Int.fdiv_nonneg hn (by decide)
  have h0 := Int.fmod_nonneg (a := n.fdiv 12) (b := 27) h2 (by decide)
  have h1 := Int.fmod_lt_of_pos (n.fdiv 12) (show (0 : Int) < 27 by decide)
  unfold codeF
  generalize (n.fdiv 12).fmod 27 = r at *
  by_cases hr : r < 11
  · rw [if_pos hr]
    obtain ⟨k, rfl⟩ := Int.eq_ofNat_of_zero_le h0
    have hall : ∀ k : Fin 11, 173 ≤ ([173, 847, 6150, 6155, 6156, 6157, 8203, 8204, 8205, 8288, 65279] : List Int).getD ((k : Nat) : Int).toNat 0 ∧ ([173, 847, 6150, 6155, 6156, 6157, 8203, 8204, 8205, 8288, 65279] : List Int).getD ((k : Nat) : Int).toNat 0 ≤ 65279 := by decide +kernel
    exact hall ⟨k, Int.ofNat_lt.mp hr⟩
  · rw [if_neg hr]; omega

theorem filledTyped (P : Params) : PySem.Challenge.rw_wr0051_01 = PySem.Challenge.rw_wr0051_01 ∧ KK P = KK P := by k_fill; exact ⟨rfl, rfl⟩
theorem typed_body {w : World} {mean : ExcName → Option Value} {mg mb : Str → Option Value} {B : Heap} (T : Top₁ mean mg mb B) (X : (KK w.params).In B)
    {A : Around} {L : Addr} {h : Heap} {g : Array GenState} {d : Drawn} {tk : Nat} {os : OsState} {news : List (Addr × Obj)} {n : Int} {c : Str} {t1 t2 : Tok} {Q : Flow → Shared → Prop}
    (F : Fr B L h (mT c t1 n t2)) (N : News B L h news)
    (hn : 0 ≤ n)
    (hQ : ∀ h' tk' t m', Fr B L h' m' → News B L h' news → Q (.ret (.str (typedS c n) t)) ⟨h', g, d, tk', os⟩) :
    wpAny (M₁ w) (A.deeper (envOf (u "_law_typed") (defScope (cell 17)) L 197 (.ref 196))) (execs (defBody (cell 17)) (envOf (u "_law_typed") (defScope (cell 17)) L 197 (.ref 196))) Q (fun _ _ => False) ⟨h, g, d, tk, os⟩ := by
  refine execs_cut (R := fun s' => ∃ h' tk' t3, s' = ⟨h', g, d, tk', os⟩ ∧ Fr B L h' (put (mT c t1 n t2) (u "start") (.int (startF n) t3)) ∧ News B L h' news) ?_ ?_
  · intro Q' hQ
    repeat' (first | (k_unfold; (try dsimp only)) | (walk1; (try dsimp only)) | (dsimp only; walk1))
    · rename_i hb _ _ F' N'
      have e : startF n = _ := if_pos hb
      rw [← e] at F'
      exact hQ _ ⟨_, _, _, rfl, F', N'⟩
    · rename_i hb _ _ _ _ _ _ _ _ F' N'
      have e : startF n = _ := if_neg hb
      rw [← e] at F'
      exact hQ _ ⟨_, _, _, rfl, F', fun p hp => N' p (.tail _ hp)⟩
  rintro s' ⟨h', tk', t3, rfl, F', N'⟩
  clear F N
  refine execs_cut (R := fun s' => ∃ h' tk' t4, s' = ⟨h', g, d, tk', os⟩ ∧ Fr B L h' (put (put (mT c t1 n t2) (u "start") (.int (startF n) t3)) (u "code") (.int (codeF n) t4)) ∧ News B L h' news) ?_ ?_
  · intro Q' hQ
    repeat' (first | (k_unfold; (try dsimp only)) | (walk1; (try dsimp only)) | (dsimp only; walk1))
    · rename_i hb _ _ _ _ _ _ _ _ F' N'
      have e : codeF n = _ := if_pos hb
      rw [← e] at F'
      exact hQ _ ⟨_, _, _, rfl, F', fun p hp => N' p (.tail _ hp)⟩
    · rename_i hb _ _ F' N'
      have e : codeF n = _ := if_neg hb
      rw [← e] at F'
      exact hQ _ ⟨_, _, _, rfl, F', N'⟩
  rintro s' ⟨h'', tk'', t4, rfl, F'', N''⟩
  clear F' N'
  have hs := startF_range hn
  have hcd := codeF_range hn
  repeat' (first | (k_unfold; (try dsimp only)) | (walk1; (try dsimp only)) | (dsimp only; walk1))
  · rename_i h1 h2 _ _ _
    have e : typedS c n = _ := if_pos ⟨h1, h2⟩
    rw [← e]
    exact hQ _ _ _ _ F'' N''
  · rename_i h1 h2 _ _ _ _ _ _
    have e : typedS c n = _ := if_neg fun x => h2 x.2
    rw [if_pos h1] at e
    rw [← e]
    exact hQ _ _ _ _ F'' N''
  · rename_i h1 _ _ _ _ _ _
    have e : typedS c n = _ := if_neg fun x => by rw [h1] at x; cases x.1
    rw [if_neg (by rw [h1]; decide)] at e
    rw [← e]
    exact hQ _ _ _ _ F'' N''

theorem spec_typed {w : World} {mean : ExcName → Option Value} {mg mb : Str → Option Value} {B : Heap} (T : Top₁ mean mg mb B) (X : (KK w.params).In B)
    {A : Around} {L : Addr} {s : Shared} {news : List (Addr × Obj)} {m : Str → Option Value} {n : Int} {c : Str} {t1 t2 : Tok} {Q E : Value → Shared → Prop}
    (F : Fr B L s.heap m) (N : News B L s.heap news) (hd : A.depth < recursionLimit) (hn : 0 ≤ n)
    (hQ : ∀ h' tk' t, Fr B L h' m → News B L h' news → Q (.str (typedS c n) t) { s with heap := h', toks := tk' }) :
    wpAny (M₁ w) A (call (.ref 197) [.str c t1, .int n t2]) Q E s := by
  refine enter_fn (binds := [(u "letter", Value.str c t1), (u "n", Value.int n t2)]) F N X T (by rfl) (by rfl) hd (by rfl) (locs (by rfl)) ?_ (by rfl) (by rfl) (by rfl) (by decide)
  intro L' h₁ fo hfo hL hlt F' N'
  refine typed_body T X F' N' hn ?_
  intro h' tk' t m' F'' N''
  obtain ⟨a, b⟩ := back_fn F N hfo F'' N'' (.head _) (fun p hp => .tail _ hp)
  exact hQ h' tk' t a b
end Mine
set_option maxRecDepth 100000
set_option maxHeartbeats 1000000
namespace Mine
open PySem PySem.W PySem.Calls PyProof.Rows
/-- the set's places and the dict's entries, as the text's own run left them -/
noncomputable def es29 (P : Params) : List (Int × Value) := match (o29 P).data with | .set es _ _ => es.toList | _ => []
noncomputable def inB1 (k : Int) : Bool := ([65024, 65025, 65026, 65027, 65028, 65029, 6150, 65030, 65031, 65032, 65033, 6155, 6156, 6157, 8203, 8204, 8205, 65034, 65035, 65036, 65037, 65038, 65039, 173, 847, 8288, 65279] : List Int).any fun i => i == k
theorem inB1_eq {P : Params} (k : Int) : (es29 P).any (fun e => Value.isInt k e.2) = inB1 k := rfl
theorem set29 {P : Params} {prog : Program} {w : World} : (o29 P).SetObjOf (intKind prog w) inB1 27 := by
  refine ⟨⟨rfl, rfl, rfl⟩, (es29 P).toArray, 29, ⟨127, #[0, 1, 2, 3, 4, 5, 6, 7, 8, 9, 10, 11, 12, 13, 14, 15, 16, 17, 18, 19, 20, 21, 22, 45, 79, 96, 127], #[], 0, !P.followText "set-order", 2, true⟩, rfl, ?_, ?_, rfl, rfl⟩
  · intro e he
    have h : (es29 P).all (fun e => match e.2 with | .int i _ => e.1 == hashInt i | _ => false) = true := by kernel_rfl
    have x := List.all_eq_true.mp h e he
    obtain ⟨a, v⟩ := e
    cases v with
    | int i t => exact ⟨⟨i, intKind_is _ _ _ _, eq_of_beq x⟩, rfl⟩
    | _ => cases x
  · intro k
    rw [← inB1_eq (P := P)]
    exact List.any_eq_true
theorem in_set29 {prog : Program} {w : World} {B : Heap} {A : Around} {L : Addr} {m : Str → Option Value} {s : Shared} {i : Int} {t : Tok} {Q : Value → Shared → Prop} {E : Value → Shared → Prop}
    (X : (KK w.params).In B) (F : Fr B L s.heap m) (hQ : Q (.bool (inB1 i)) { s with toks := s.toks + 1 }) : wpAny (model prog w) A (compareOp .In (.int i t) (.ref 29)) Q E s :=
  wpAny_inSet_of (knd := intKind prog w) (intKind_is _ _ _ _) rfl (set29.setOf (X.keeps F.keep _ _ rfl) (by decide)) hQ

noncomputable def b3val (k : Int) : Option Value := findBy Value.isInt b3es.toArray k
noncomputable def b3str (k : Int) : Option Str := match b3val k with | some (.str s _) => some s | _ => none
theorem map40 {prog : Program} {w : World} {h : Heap} (ho : h.get? 40 = some (dOb 0)) : h.MapOf (intKind prog w) 40 b3val := by
  refine ⟨dOb 0, b3es.toArray, 650, ho, ⟨rfl, rfl, rfl⟩, rfl, ?_, fun k => rfl⟩
  intro e he
  have h : b3es.all (fun e => match e.key with | .int i _ => e.hash == hashInt i | _ => false) = true := by kernel_rfl
  have x := List.all_eq_true.mp h e (by simpa using he)
  obtain ⟨hs, k, v⟩ := e
  cases k with
  | int i t => exact ⟨i, intKind_is _ _ _ _, eq_of_beq x⟩
  | _ => cases x
theorem get_map40 {prog : Program} {w : World} {B : Heap} {A : Around} {L : Addr} {m : Str → Option Value} {s : Shared} {i : Int} {t : Tok} {Q : Value → Shared → Prop} {E : Value → Shared → Prop}
    (X : (KK w.params).In B) (F : Fr B L s.heap m) (hQ : Q ((b3val i).getD .none) { s with toks := s.toks + 1 }) : wpAny (model prog w) A (call (.builtin "dict.get") [.ref 40, .int i t]) Q E s :=
  have hm := map40 (prog := prog) (w := w) (X.keeps F.keep _ _ rfl)
  call_meetsIn PySem.F.slot_dict_get hm.typeIs PySem.F.entry_dict_get (PySem.F.args_dict_get_2 _ _) (PySem.meets_dict_get _ 40 (intKind_is _ _ _ _) (by rfl)) ⟨_, hm, hQ⟩
theorem method_map40 {prog : Program} {w : World} {B : Heap} {A : Around} {L : Addr} {m : Str → Option Value} {s : Shared} {pl : Sem Bool} {Q : Value × List Value → Shared → Prop} {E : Value → Shared → Prop}
    (X : (KK w.params).In B) (F : Fr B L s.heap m) (hQ : Q (.builtin "dict.get", [.ref 40]) s) : wpAny (model prog w) A (getMethod (.ref 40) (Str.ofString "get") pl) Q E s :=
  have hm := map40 (prog := prog) (w := w) (X.keeps F.keep _ _ rfl)
  getMethod_builtin hm.typeIs PySem.F.plainAttrs_dict PySem.F.slot_dict_get PySem.F.type_dict_get hm.noDict hQ
theorem filled2 (P : Params) : PySem.Challenge.rw_wr0051_01 = PySem.Challenge.rw_wr0051_01 ∧ KK P = KK P := by k_fill; exact ⟨rfl, rfl⟩
local macro_rules | `(tactic| walk_at "compareOp In int ref") => `(tactic| ((with_reducible show wpAny _ _ (compareOp CmpOp.In (Value.int _ _) (Value.ref 29)) _ _ _); refine in_set29 (by assumption) (by assumption) ?_))
local macro_rules | `(tactic| walk_at "getMethod ref") => `(tactic| ((with_reducible show wpAny _ _ (getMethod (Value.ref 40) _ _) _ _ _); refine method_map40 (by assumption) (by assumption) ?_))
local macro_rules | `(tactic| walk_at "call builtin:dict.get") => `(tactic| ((with_reducible show wpAny _ _ (call (Value.builtin "dict.get") [Value.ref 40, Value.int _ _]) _ _ _); refine get_map40 (by assumption) (by assumption) ?_))

theorem spec_b1 {w : World} {mean : ExcName → Option Value} {mg mb : Str → Option Value} {B : Heap} (T : Top₁ mean mg mb B) (X : (KK w.params).In B)
    {A : Around} {L : Addr} {h : Heap} {g : Array GenState} {d : Drawn} {tk : Nat} {os : OsState} {news : List (Addr × Obj)} {m : Str → Option Value} {k : Nat} {t1 : Tok} {Q E : Value → Shared → Prop}
    (F : Fr B L h m) (N : News B L h news) (hd : A.depth < recursionLimit)
    (hQ : ∀ h' tk', Fr B L h' m → News B L h' news → Q (.bool (inB1 k)) ⟨h', g, d, tk', os⟩) :
    wpAny (M₁ w) A (call (.ref 39) [.str (Str.mk #[k]) t1]) Q E ⟨h, g, d, tk, os⟩ := by
  refine spec_fn (binds := [(u "code", Value.str (Str.mk #[k]) t1)]) (fun v => v = .bool (inB1 k)) F N X T (by rfl) (by rfl) hd (by rfl) (locs (by rfl)) ?_ (fun v h' tk' e => e ▸ hQ h' tk') (by rfl) (by rfl) (by rfl) (by decide)
  intro L' h₁ fo Q' hlt F' N' hR
  clear F N
  repeat' (first | (k_unfold; (try dsimp only)) | (walk1; (try dsimp only)) | (dsimp only; walk1))
  exact hR _ _ _ _ rfl F' N'
/-- what map_table_b3 gives back for one sign -/
noncomputable def foldB3 (k : Nat) : Option Str := match b3val k with | some (.str s _) => some s | some _ => none | none => if PySem.Builtin.Str.tooLong (Txt.lower (Str.mk #[k])).length = false then some (Txt.lower (Str.mk #[k])) else none
theorem spec_b3 {w : World} {mean : ExcName → Option Value} {mg mb : Str → Option Value} {B : Heap} (T : Top₁ mean mg mb B) (X : (KK w.params).In B)
    {A : Around} {L : Addr} {h : Heap} {g : Array GenState} {d : Drawn} {tk : Nat} {os : OsState} {news : List (Addr × Obj)} {m : Str → Option Value} {k : Nat} {r : Str} {t1 : Tok} {Q E : Value → Shared → Prop}
    (F : Fr B L h m) (N : News B L h news) (hd : A.depth < recursionLimit)
    (hr : foldB3 k = some r)
    (hQ : ∀ h' tk' t, Fr B L h' m → News B L h' news → Q (.str r t) ⟨h', g, d, tk', os⟩) :
    wpAny (M₁ w) A (call (.ref 85) [.str (Str.mk #[k]) t1]) Q E ⟨h, g, d, tk, os⟩ := by
  refine spec_fn (binds := [(u "code", Value.str (Str.mk #[k]) t1)]) (fun v => ∃ t, v = .str r t) F N X T (by rfl) (by rfl) hd (by rfl) (locs (by rfl)) ?_ (fun v h' tk' ⟨t, e⟩ => e ▸ hQ h' tk' t) (by rfl) (by rfl) (by rfl) (by decide)
  intro L' h₁ fo Q' hlt F' N' hR
  clear F N
  unfold foldB3 at hr
  split at hr
  · rename_i s t0 hv
    cases hr
    repeat' (first | (k_unfold; (try dsimp only)) | (walk1; (try dsimp only)) | (rw [hv]; dsimp only [Option.getD]) | (dsimp only; walk1))
    exact hR (.ret _) _ _ _ ⟨_, rfl⟩ (by assumption) (by assumption)
  · cases hr
  · rename_i hv
    split at hr
    · rename_i hf
      cases hr
      repeat' (first | (k_unfold; (try dsimp only)) | (refine KXw.lower rfl hf ?_; intro _ _) | (walk1; (try dsimp only)) | (rw [hv]; dsimp only [Option.getD]) | (dsimp only; walk1))
      exact hR (.ret _) _ _ _ ⟨_, rfl⟩ (by assumption) (by assumption)
    · cases hr
end Mine
set_option maxRecDepth 100000
set_option maxHeartbeats 1000000

namespace Mine
open PySem PySem.W PySem.Calls PyProof.Rows
noncomputable def fibL : Nat → List Int × Int × Int | 0 => ([], 1, 2) | k + 1 => ((fibL k).1 ++ [(fibL k).2.1], (fibL k).2.2, (fibL k).2.2 + (fibL k).2.1)
noncomputable def greedy : List Int → Int → List Int → List Int × Int
  | [], n, acc => (acc, n)
  | x :: r, n, acc => if x ≤ n then greedy r (n - x) (acc ++ [x]) else greedy r n acc
noncomputable def sizesOf (n : Int) : Nat := if 13 < n then 5 else if 8 < n then 4 else if 5 < n then 3 else if 3 < n then 2 else if 2 < n then 1 else 0
noncomputable def fibAll (j : Nat) : List Int := (fibL j).1 ++ [(fibL j).2.1, (fibL j).2.2]
noncomputable def partsOf (n : Int) : List Int := (greedy (fibAll (sizesOf n)).reverse n []).1
theorem grow_on {n : Int} {j : Nat} (hn : n ≤ 21) (hj : j ≤ sizesOf n) : (fibL j).2.2 < n ↔ j < sizesOf n := by
  have h5 : sizesOf n ≤ 5 := by unfold sizesOf; (repeat' split) <;> omega
  have hj' : j = 0 ∨ j = 1 ∨ j = 2 ∨ j = 3 ∨ j = 4 ∨ j = 5 := by omega
  rcases hj' with rfl | rfl | rfl | rfl | rfl | rfl
  · show (2 : Int) < n ↔ _; revert hj; unfold sizesOf; (repeat' split) <;> omega
  · show (3 : Int) < n ↔ _; revert hj; unfold sizesOf; (repeat' split) <;> omega
  · show (5 : Int) < n ↔ _; revert hj; unfold sizesOf; (repeat' split) <;> omega
  · show (8 : Int) < n ↔ _; revert hj; unfold sizesOf; (repeat' split) <;> omega
  · show (13 : Int) < n ↔ _; revert hj; unfold sizesOf; (repeat' split) <;> omega
  · show (21 : Int) < n ↔ _; revert hj; unfold sizesOf; (repeat' split) <;> omega
theorem sizesOf_le (n : Int) : sizesOf n ≤ 5 := by unfold sizesOf; (repeat' split) <;> omega
theorem fibL_len : ∀ j, (fibL j).1.length = j
  | 0 => rfl
  | j + 1 => by show ((fibL j).1 ++ [_]).length = _; rw [List.length_append, fibL_len j]; rfl
theorem greedy_append : ∀ (a b : List Int) (n : Int) (acc : List Int), greedy (a ++ b) n acc = greedy b (greedy a n acc).2 (greedy a n acc).1
  | [], _, _, _ => rfl
  | x :: a, b, n, acc => by
    simp only [List.cons_append, greedy]; split
    · exact greedy_append a b _ _
    · exact greedy_append a b _ _
theorem greedy_take {l : List Int} {i : Nat} {x n : Int} (h : l[i]? = some x) : greedy (l.take (i + 1)) n [] = if x ≤ (greedy (l.take i) n []).2 then ((greedy (l.take i) n []).1 ++ [x], (greedy (l.take i) n []).2 - x) else ((greedy (l.take i) n []).1, (greedy (l.take i) n []).2) := by
  rw [List.take_add_one, h]; exact greedy_append _ [x] _ _
theorem greedy_len : ∀ (a : List Int) (n : Int) (acc : List Int), (greedy a n acc).1.length ≤ a.length + acc.length
  | [], _, acc => by simp [greedy]
  | x :: a, n, acc => by
    simp only [greedy]; split
    · have := greedy_len a (n - x) (acc ++ [x]); simp at *; omega
    · have := greedy_len a n acc; simp at *; omega
theorem filledParts (P : Params) : PySem.Challenge.rw_wr0051_01 = PySem.Challenge.rw_wr0051_01 ∧ KK P = KK P := by k_fill; exact ⟨rfl, rfl⟩
theorem spec_parts {w : World} {mean : ExcName → Option Value} {mg mb : Str → Option Value} {B : Heap} (T : Top₁ mean mg mb B) (X : (KK w.params).In B)
    {A : Around} {L : Addr} {h : Heap} {g : Array GenState} {d : Drawn} {tk : Nat} {os : OsState} {news : List (Addr × Obj)} {m : Str → Option Value} {n : Int} {t1 : Tok} {Q E : Value → Shared → Prop}
    (F : Fr B L h m) (N : News B L h news) (hd : A.depth < recursionLimit) (hh : A.handled = none)
    (hn : 0 ≤ n ∧ n ≤ 21)
    (hQ : ∀ h' tk' P ps c, IntsAre ps (partsOf n) → (L < P ∧ AllLt P news) → Fr B L h' m → News B L h' ((P, W.listOf (List.toArray ps) c) :: news) → Q (.ref P) ⟨h', g, d, tk', os⟩) :
    wpAny (M₁ w) A (call (.ref 204) [.int n t1]) Q E ⟨h, g, d, tk, os⟩ := by
  obtain ⟨ah, ad, af, ag, au⟩ := A
  obtain rfl : ah = none := hh
  refine spec_fnW (binds := [(u "n", Value.int n t1)]) (fun v news' => ∃ P ps c, v = .ref P ∧ news' = (P, W.listOf (List.toArray ps) c) :: news ∧ IntsAre ps (partsOf n) ∧ L < P ∧ AllLt P news) F N X T (by rfl) (by rfl) hd (by rfl) (locs (by rfl)) ?_ ?_ (by rfl) (by rfl) (by rfl) (by decide)
  · intro L' h₁ fo Q' hlt F' N' hR
    refine execs_cut (R := fun s' => ∃ h' tk' S P u1 u2, s' = ⟨h', g, d, tk', os⟩ ∧ Fr B L' h' (put (put (fun x => [(u "n", Value.int n t1)].reverse.lookup x) (u "parts") (.ref P)) (u "sizes") (.ref S)) ∧ News B L' h' ((P, W.listOf #[] 0) :: (S, W.listOf #[.int 1 u1, .int 2 u2] 0) :: (L, fo) :: news) ∧ (S < P ∧ L < P ∧ AllLt P news) ∧ (L < S ∧ AllLt S news)) ?_ ?_
    · intro Q' hQ
      repeat' (first | (k_unfold; (try dsimp only)) | (walk1; (try dsimp only)) | (dsimp only; walk1))
      exact hQ _ ⟨_, _, _, _, _, _, rfl, (by assumption), (fun p hp => (by assumption : News _ _ _ _) p (.tail _ hp)), by assumption, by assumption⟩
    rintro s' ⟨h', tk', S, P, u1, u2, rfl, F', N', l1, l2⟩
    refine execs_cut (R := fun s' => ∃ h' tk' us c, s' = ⟨h', g, d, tk', os⟩ ∧ IntsAre us (fibAll (sizesOf n)) ∧ Fr B L' h' (put (put (fun x => [(u "n", Value.int n t1)].reverse.lookup x) (u "parts") (.ref P)) (u "sizes") (.ref S)) ∧ News B L' h' ((P, W.listOf #[] 0) :: (S, W.listOf (List.toArray us) c) :: (L, fo) :: news)) ?_ ?_
    · intro Q' hQ
      refine While_inv (fun k m₁ news₁ => ∃ (j : Nat) (us : List Value) (ta tb : Tok) (c : Nat), k = sizesOf n - j ∧ j ≤ sizesOf n ∧ IntsAre us (fibL j).1 ∧ m₁ = (put (put (fun x => [(u "n", Value.int n t1)].reverse.lookup x) (u "parts") (.ref P)) (u "sizes") (.ref S)) ∧
        news₁ = ((P, W.listOf #[] 0) :: (S, W.listOf (us ++ [Value.int (fibL j).2.1 ta, Value.int (fibL j).2.2 tb]).toArray c) :: (L, fo) :: news)) F' N' ⟨0, [], u1, u2, 0, rfl, by omega, .nil, rfl, rfl⟩ ?_
      clear F' N'
      rintro k m₁ news₁ h₁ tk₁ F₁ N₁ ⟨j, us, ta, tb, c, rfl, hj, hi, rfl, rfl⟩
      generalize hfa : (fibL j).2.1 = fa at N₁
      generalize hfb : (fibL j).2.2 = fb at N₁
      have hPS : P ≠ S := Nat.ne_of_gt l1.1
      have hS : ∀ p ∈ (L, fo) :: news, p.1 ≠ S := AllLt.ne l2
      have hlen : (us ++ [Value.int fa ta, Value.int fb tb]).toArray.size ≤ sizeLine := by
        have z1 := hi.length; have z2 := fibL_len j; have z3 := sizesOf_le n
        have z4 : 100 ≤ sizeLine := by decide
        simp only [List.size_toArray, List.length_append, List.length_cons, List.length_nil]; omega
      repeat' (first | (k_unfold; (try dsimp only)) | ((with_reducible show wpAny _ _ (call (Value.builtin "list.append") _) _ _ _); refine append_K (D := S) F₁ N₁ (.tail hPS (.head hS)) ?_ hlen; intro h₂ F₂ N₂) | ((with_reducible show wpAny _ _ (subscriptTail _ _ _ _) _ _ _); refine item_neg N₁ (.tail _ (.head _)) (at_last _ _ _) (by decide) (one_le _ _ _) (by decide) ?_) | ((with_reducible show wpAny _ _ (subscriptTail _ _ _ _) _ _ _); refine item_neg N₁ (.tail _ (.head _)) (at_prev _ _ _) (by decide) (two_le _ _ _) (by decide) ?_) | (walk1; (try dsimp only)) | (dsimp only; walk1))
      · rename_i hlt tkA
        have hj1 : j < sizesOf n := (grow_on hn.2 hj).mp (by omega)
        rw [push_two] at N₂
        refine WhileStep.intro F₂ N₂ (n' := sizesOf n - (j + 1)) (by omega) ⟨j + 1, us ++ [.int fa ta], tb, tkA + 1 + 1 + 1 + 1, c + 1, rfl, hj1, ?_, rfl, ?_⟩
        · show IntsAre _ ((fibL j).1 ++ [(fibL j).2.1])
          rw [hfa]; exact hi.append (.cons _ _ .nil)
        · rw [show (fibL (j + 1)).2.1 = fb from hfb, show (fibL (j + 1)).2.2 = fb + fa from by rw [← hfb, ← hfa]; rfl]
      · rename_i hlt
        have hj1 : j = sizesOf n := by
          have := (grow_on hn.2 hj); omega
        subst hj1
        refine hQ _ ⟨h₁, _, us ++ [Value.int fa ta, Value.int fb tb], c, rfl, ?_, F₁, N₁⟩
        unfold fibAll
        rw [hfa, hfb]
        exact hi.append (.cons _ _ (.cons _ _ .nil))
    rintro s' ⟨h', tk', us, c, rfl, hi, F', N'⟩
    refine execs_cut (R := fun s' => ∃ h' tk' us c vn o, s' = ⟨h', g, d, tk', os⟩ ∧ IntsAre us (partsOf n) ∧ Fr B L' h' (bindM' (bindM' (put (put (fun x => [(u "n", Value.int n t1)].reverse.lookup x) (u "parts") (.ref P)) (u "sizes") (.ref S)) (u "n") vn) (u "size") o) ∧ News B L' h' ((P, W.listOf (List.toArray us) c) :: (L, fo) :: news)) ?_ ?_
    · intro Q' hQ
      refine for_gen B (by rfl) (by rfl) ?_
      have hlen : us.toArray.size ≤ sizeLine := by
        have z1 := hi.length; have z3 := sizesOf_le n; have z2 := fibL_len (sizesOf n)
        have z4 : 100 ≤ sizeLine := by decide
        unfold fibAll at z1
        simp only [List.size_toArray, List.length_append, List.length_cons, List.length_nil] at *; omega
      have hlist : h'.IsList S us.toArray := ⟨_, (N' _ (.tail _ (.head _))).1, rfl, _, rfl⟩
      repeat' (first | (k_unfold; (try dsimp only)) | ((with_reducible show wpAny _ _ (subscriptTail _ _ _ _) _ _ _); refine krv_lit (s := ⟨h', g, d, _, os⟩) F' N' hlist (.int _ _) rfl ?_ (by with_unfolding_all rfl) (by intro _; with_unfolding_all rfl) hlen; intro D h₂ F₂ N₂ hD) | ((fail_if_success (with_reducible show wpAny _ _ (pyIter _) _ _ _)); (fail_if_success (with_reducible show wpAny _ _ (subscriptTail _ _ _ _) _ _ _)); walk1; (try dsimp only)) | (dsimp only; (fail_if_success (with_reducible show wpAny _ _ (pyIter _) _ _ _)); (fail_if_success (with_reducible show wpAny _ _ (subscriptTail _ _ _ _) _ _ _)); walk1))
      clear hlist F' N'
      have hmem : (D, W.listOf us.toArray.toList.reverse.toArray 0) ∈ ((D, W.listOf us.toArray.toList.reverse.toArray 0) :: (P, W.listOf #[] 0) :: (S, W.listOf us.toArray c) :: (L, fo) :: news) := .head _
      have hrev : IntsAre us.reverse (fibAll (sizesOf n)).reverse := hi.reverse
      have hl7 : (fibAll (sizesOf n)).reverse.length ≤ 7 := by
        have z3 := sizesOf_le n; have z2 := fibL_len (sizesOf n)
        unfold fibAll; simp only [List.length_reverse, List.length_append, List.length_cons, List.length_nil]; omega
      generalize hl : (fibAll (sizesOf n)).reverse = l at *
      refine iter_list (fun i m₁ news₁ => ∃ (ps : List Value) (tn : Tok) (o : Option Value) (c' : Nat), IntsAre ps (greedy (l.take i) n []).1 ∧
        m₁ = bindM' (bindM' (put (put (fun x => [(u "n", Value.int n t1)].reverse.lookup x) (u "parts") (.ref P)) (u "sizes") (.ref S)) (u "n") (some (.int (greedy (l.take i) n []).2 tn))) (u "size") o ∧
        news₁ = (D, W.listOf us.toArray.toList.reverse.toArray 0) :: (P, W.listOf ps.toArray c') :: (S, W.listOf us.toArray c) :: (L, fo) :: news) F₂ N₂ (.head _) (by rfl) ?_ ?_ ?_ ?_
      · rintro i m' n' ⟨ps, tn, o, c', _, _, rfl⟩; exact .head _
      · refine ⟨[], t1, none, 0, .nil, ?_, rfl⟩
        rw [show bindM' (put (put (fun x => [(u "n", Value.int n t1)].reverse.lookup x) (u "parts") (.ref P)) (u "sizes") (.ref S)) (u "n") (some (.int (greedy (l.take 0) n []).2 t1)) = _ from (bindM'_start _ (u "n")).symm]
        exact bindM'_start _ (u "size")
      · clear N₂ F₂
        rintro I io i v m₁ news₁ h₁ tk₁ Q₁ hv ⟨ps, tn, o, c', hps, rfl, rfl⟩ hI hIn F₁ N₁ hnext hret
        obtain ⟨x, hx⟩ : ∃ x, l[i]? = some x := by
          have e1 := hrev.length
          have : i < us.reverse.length := by
            have := (Array.getElem?_eq_some_iff.mp hv).1; simpa using this
          exact ⟨l[i], List.getElem?_eq_getElem (by omega)⟩
        obtain ⟨tx, hvx⟩ := hrev.get i x hx
        obtain rfl : v = .int x tx := by
          have : us.reverse[i]? = some v := by simpa using hv
          rw [this] at hvx; exact Option.some.inj hvx
        rw [put_bindM] at F₁
        have hg := greedy_take (n := n) hx
        have hlen2 := greedy_len (l.take i) n []
        generalize hga : (greedy (l.take i) n []).1 = ga at *
        generalize hgn : (greedy (l.take i) n []).2 = gn at *
        have hlen3 : ps.toArray.size ≤ sizeLine := by
          have z1 := hps.length
          have z4 : 100 ≤ sizeLine := by decide
          simp only [List.size_toArray, List.length_take, List.length_nil] at *; omega
        have hDP : D ≠ P := Nat.ne_of_gt (hD _ (.head _))
        have hIP : I ≠ P := Nat.ne_of_gt (hIn _ (.tail _ (.head _)))
        have hPS : S ≠ P := Nat.ne_of_lt l1.1
        have hP : ∀ p ∈ (S, W.listOf us.toArray c) :: (L, fo) :: news, p.1 ≠ P := fun p hp => by
          rcases List.mem_cons.mp hp with rfl | hp
          · exact hPS
          · exact AllLt.ne (l := (L, fo) :: news) l1.2 p hp
        repeat' (first | (k_unfold; (try dsimp only)) | ((with_reducible show wpAny _ _ (call (Value.builtin "list.append") _) _ _ _); refine append_K (D := P) (by assumption) (by assumption) (.tail hIP (.tail hDP (.head hP))) ?_ hlen3; intro h₂ F₂ N₂) | (walk1; (try dsimp only)) | (dsimp only; walk1))
        · rename_i hle tkn h₃ F₃ N₃
          rw [if_pos hle] at hg
          refine hnext h₃ _ _ _ F₃ N₃ ?_ ⟨ps ++ [.int x tx], tkn, some (Value.int x tx), c' + 1, ?_, ?_, ?_⟩
          · intro p hp
            rcases List.mem_cons.mp hp with rfl | hp
            · exact hI _ (.head _)
            rcases List.mem_cons.mp hp with rfl | hp
            · exact hI (P, W.listOf ps.toArray c') (.tail _ (.head _))
            exact hI _ (.tail _ (.tail _ hp))
          · rw [hg]; exact hps.append (.cons _ _ .nil)
          · rw [hg]; exact put_under (by decide) _ _ _ _
          · show _ :: (P, W.listOf (ps.toArray.push (Value.int x tx)) (c' + 1)) :: _ = _
            rw [List.push_toArray]
        · rename_i hle
          rw [if_neg hle] at hg
          exact hnext h₁ _ _ _ F₁ N₁ hI ⟨ps, tn, _, c', by rw [hg]; exact hps, by rw [hg], rfl⟩
      · rintro h₃ tk₃ m₃ news₃ F₃ N₃ ⟨ps, tn, o, c', hps, rfl, rfl⟩
        have e : l.take (us.toArray.toList.reverse.toArray).size = l := by
          apply List.take_of_length_le
          have := hrev.length
          simp at *; omega
        rw [e] at hps
        refine hQ _ ⟨h₃, tk₃, ps, c', _, _, rfl, ?_, F₃, fun p hp => ?_⟩
        · unfold partsOf; rw [hl]; exact hps
        · rcases List.mem_cons.mp hp with rfl | hp
          · exact N₃ _ (.tail _ (.head _))
          · exact N₃ _ (.tail _ (.tail _ (.tail _ hp)))
    rintro s' ⟨h', tk', us, c, vn, o, rfl, hi, F', N'⟩
    repeat' (first | (k_unfold; (try dsimp only)) | (walk1; (try dsimp only)) | (dsimp only; walk1))
    refine hR (.ret (.ref P)) h' _ _ _ ⟨P, us, c, rfl, rfl, hi, l1.2⟩ F' (fun p hp => ?_) ?_
    · rcases List.mem_cons.mp hp with rfl | hp
      · exact N' _ (.tail _ (.head _))
      rcases List.mem_cons.mp hp with rfl | hp
      · exact N' _ (.head _)
      · exact N' _ (.tail _ (.tail _ hp))
    · intro p hp
      rcases List.mem_cons.mp hp with rfl | hp
      · exact Nat.ne_of_gt l1.2.1
      · exact (N p hp).2.1
  · rintro v h' tk' news' ⟨P, ps, c, rfl, rfl, hi, l1⟩ F' N'
    exact hQ h' tk' P ps c hi l1 F' N'
end Mine
set_option maxRecDepth 100000
set_option maxHeartbeats 1000000
namespace Mine
open PySem PySem.W PySem.Calls PyProof.Rows
noncomputable def heapL (a b : Nat) : List Nat := List.replicate a 32 ++ 120 :: List.replicate b 32
noncomputable def heapS (a b : Nat) : Str := txt (heapL a b)
theorem heap_len (a b : Nat) : (heapS a b).length = a + b + 1 := by
  rw [heapS, txt_len, heapL]; simp; omega
theorem item_heap (a b : Nat) (i : Int) (h0 : 0 ≤ i) (hi : i < a + b + 1) : (Txt.item (heapS a b) i == Str.ofString " ") = decide (i ≠ a) := by
  obtain ⟨n, rfl⟩ := Int.eq_ofNat_of_zero_le h0
  have e : (heapL a b)[((n : Nat) : Int).toNat]? = some (if ((n : Nat) : Int) = a then 120 else 32) := by
    rw [Int.toNat_natCast]
    unfold heapL
    rcases Nat.lt_trichotomy n a with h1 | rfl | h1
    · rw [List.getElem?_append_left (by rw [List.length_replicate]; exact h1), List.getElem?_replicate, if_pos h1, if_neg (show ¬ ((n : Nat) : Int) = (a : Nat) from fun e => Nat.ne_of_lt h1 (Int.ofNat.inj e))]
    · rw [List.getElem?_append_right (by rw [List.length_replicate]; exact Nat.le_refl _), List.length_replicate, Nat.sub_self, if_pos rfl]; rfl
    · obtain ⟨c, rfl⟩ := Nat.exists_eq_add_of_lt h1
      have hc : c < b := by clear h0 h1; omega
      rw [List.getElem?_append_right (by rw [List.length_replicate]; exact Nat.le_of_lt h1), List.length_replicate, show a + c + 1 - a = c + 1 by clear hi hc h0 h1; omega, List.getElem?_cons_succ, List.getElem?_replicate, if_pos hc, if_neg (show ¬ ((a + c + 1 : Nat) : Int) = (a : Nat) from fun e => Nat.ne_of_gt h1 (Int.ofNat.inj e))]
  rw [heapS, item_txt h0 e]
  show (txt _ == txt [32]) = _
  rw [txt_beq]
  by_cases h : ((n : Nat) : Int) = a
  · rw [if_pos h]; simp [h]
  · rw [if_neg h]; simp [h]
theorem heapL_len (a b : Nat) : (heapL a b).length = a + (b + 1) := by
  rw [heapL, List.length_append, List.length_cons, List.length_replicate, List.length_replicate]
theorem heap_cut1 (k c b : Nat) : Txt.slice (heapS (k + c) b) (some (k : Int)) (some (((k + c : Nat) : Int) + b - (0 : Nat) + 1)) = heapS c b := by
  have hl := heapL_len (k + c) b
  have hl2 := heapL_len c b
  unfold heapS
  rw [slice_txt (Int.natCast_nonneg _) (by clear hl hl2; omega) (by rw [hl]; clear hl hl2; omega)]
  rw [Int.toNat_natCast, show (((k + c : Nat) : Int) + b - (0 : Nat) + 1 - k).toNat = c + (b + 1) by clear hl hl2; omega]
  unfold heapL at hl2 ⊢
  rw [List.drop_append_of_le_length (by rw [List.length_replicate]; exact Nat.le_add_right _ _), List.drop_replicate, Nat.add_sub_cancel_left]
  exact congrArg txt (List.take_of_length_le (Nat.le_of_eq hl2))
theorem heap_cut2 (a j c : Nat) : Txt.slice (heapS a (j + c)) (some (a : Int)) (some ((a : Int) + ((j + c : Nat) : Int) - (j : Nat) + 1)) = heapS 0 c := by
  have hl := heapL_len a (j + c)
  unfold heapS
  rw [slice_txt (Int.natCast_nonneg _) (by clear hl; omega) (by rw [hl]; clear hl; omega)]
  rw [Int.toNat_natCast, show ((a : Int) + ((j + c : Nat) : Int) - (j : Nat) + 1 - a).toNat = c + 1 by clear hl; omega]
  unfold heapL
  rw [List.drop_append_of_le_length (by rw [List.length_replicate]; exact Nat.le_refl _), List.drop_replicate, Nat.sub_self]
  show txt (List.take (c + 1) (120 :: List.replicate (j + c) 32)) = txt (120 :: List.replicate c 32)
  rw [List.take_succ_cons, List.take_replicate, Nat.min_eq_left (Nat.le_add_left _ _)]
theorem heap_cut (a b k : Nat) (hk : k ≤ a + b) : Txt.slice (heapS a b) (some ((min a k : Nat) : Int)) (some ((a : Int) + b - ((k - a : Nat) : Int) + 1)) = heapS (a - k) (b - (k - a)) := by
  rcases Nat.le_total k a with h | h
  · obtain ⟨c, rfl⟩ := Nat.exists_eq_add_of_le h
    rw [Nat.min_eq_right h, Nat.sub_eq_zero_of_le h, Nat.add_sub_cancel_left, Nat.sub_zero]
    exact heap_cut1 k c b
  · obtain ⟨j, rfl⟩ := Nat.exists_eq_add_of_le h
    obtain ⟨c, rfl⟩ := Nat.exists_eq_add_of_le (Nat.le_of_add_le_add_left hk)
    rw [Nat.min_eq_left h, Nat.sub_eq_zero_of_le h, Nat.add_sub_cancel_left, Nat.add_sub_cancel_left]
    exact heap_cut2 a j c
theorem strip_end {a k i r : Nat} (he : i + r = k) (hi : i ≤ a) (h : i = a ∨ r = 0) : min a k = i ∧ k - a = r := by
  subst he
  rcases h with rfl | rfl
  · exact ⟨Nat.min_eq_left (Nat.le_add_right _ _), Nat.add_sub_cancel_left _ _⟩
  · exact ⟨Nat.min_eq_right hi, Nat.sub_eq_zero_of_le hi⟩
theorem filledStrip (P : Params) : PySem.Challenge.rw_wr0051_01 = PySem.Challenge.rw_wr0051_01 ∧ KK P = KK P := by k_fill; exact ⟨rfl, rfl⟩
theorem spec_strip {w : World} {mean : ExcName → Option Value} {mg mb : Str → Option Value} {B : Heap} (T : Top₁ mean mg mb B) (X : (KK w.params).In B)
    {A : Around} {L : Addr} {h : Heap} {g : Array GenState} {d : Drawn} {tk : Nat} {os : OsState} {news : List (Addr × Obj)} {m : Str → Option Value} {a b k : Nat} {t1 t2 : Tok} {Q E : Value → Shared → Prop}
    (F : Fr B L h m) (N : News B L h news) (hd : A.depth < recursionLimit) (hh : A.handled = none)
    (hk : k ≤ a + b) (hab : a + b ≤ 100)
    (hQ : ∀ h' tk' t, Fr B L h' m → News B L h' news → Q (.str (heapS (a - k) (b - (k - a))) t) ⟨h', g, d, tk', os⟩) :
    wpAny (M₁ w) A (call (.ref 190) [.str (heapS a b) t1, .int k t2]) Q E ⟨h, g, d, tk, os⟩ := by
  obtain ⟨ah, ad, af, ag, au⟩ := A
  obtain rfl : ah = none := hh
  refine spec_fn (binds := [(u "s", Value.str (heapS a b) t1), (u "amount", .int k t2)]) (fun v => ∃ t, v = .str (heapS (a - k) (b - (k - a))) t) F N X T (by rfl) (by rfl) hd (by rfl) (locs (by rfl)) ?_ (fun v h' tk' ⟨t, e⟩ => e ▸ hQ h' tk' t) (by rfl) (by rfl) (by rfl) (by decide)
  intro L' h₁ fo Q' hlt F' N' hR
  clear F N
  refine execs_cut (R := fun s' => ∃ h' tk' t3, s' = ⟨h', g, d, tk', os⟩ ∧ Fr B L' h' (put (fun x => [(u "s", Value.str (heapS a b) t1), (u "amount", .int k t2)].reverse.lookup x) (u "lpos") (.int 0 t3)) ∧ News B L' h' ((L, fo) :: news)) ?_ ?_
  · intro Q' hQ
    repeat' (first | (k_unfold; (try dsimp only)) | (walk1; (try dsimp only)) | (dsimp only; walk1))
    exact hQ _ ⟨_, _, _, rfl, (by assumption), (by assumption)⟩
  rintro s' ⟨h', tk', t3, rfl, F', N'⟩
  refine execs_cut (R := fun s' => ∃ (h' : Heap) (tk' : Nat) (t3 t4 : Tok), s' = ⟨h', g, d, tk', os⟩ ∧ Fr B L' h' (bindM' (bindM' (fun x => [(u "s", Value.str (heapS a b) t1)].reverse.lookup x) (u "lpos") (some (.int (min a k : Nat) t3))) (u "amount") (some (.int ((k - a : Nat) : Int) t4))) ∧ News B L' h' ((L, fo) :: news)) ?_ ?_
  · intro Q' hQ
    refine While_inv (fun j m₁ news₁ => ∃ (i : Nat) (t3 t4 : Tok), i + j = k ∧ i ≤ a ∧ m₁ = bindM' (bindM' (fun x => [(u "s", Value.str (heapS a b) t1)].reverse.lookup x) (u "lpos") (some (.int i t3))) (u "amount") (some (.int (j : Int) t4)) ∧ news₁ = (L, fo) :: news) F' N' (n₀ := k) ⟨0, t3, t2, Nat.zero_add k, Nat.zero_le _, ?_, rfl⟩ ?_
    · show put (fun y => List.lookup y [(u "amount", .int k t2), (u "s", Value.str (heapS a b) t1)]) _ _ = _
      rw [lookup_bindM, put_swap (by decide)]; rfl
    clear F' N'
    rintro j m₁ news₁ h₁ tk₁ F₁ N₁ ⟨i, t3, t4, hij, hia, rfl, rfl⟩
    have hlen := heap_len a b
    have h0 : (0 : Int) ≤ (i : Int) := Int.natCast_nonneg i
    have h1 : (i : Int) < a + b + 1 := by clear hk hab hij hd hlen; omega
    have hitem := item_heap a b i h0 h1
    generalize hs : heapS a b = s at *
    repeat' (first | (k_unfold; (try dsimp only)) | (walk1; (try dsimp only)) | (dsimp only; walk1))
    · rename_i hsp tka h₂ tkb h₃ F₃ N₃
      rw [hsp] at hitem
      have hne := of_decide_eq_true hitem.symm
      obtain ⟨j', rfl⟩ : ∃ j', j = j' + 1 := Nat.exists_eq_succ_of_ne_zero (fun e => by subst e; contradiction)
      refine WhileStep.intro F₃ N₃ (n' := j') (Nat.lt_succ_self _) ⟨i + 1, tka + 1, tkb + 1, ?_, ?_, ?_, rfl⟩
      · exact (Nat.succ_add_eq_add_succ i j').trans hij
      · exact Nat.lt_of_le_of_ne hia fun e => hne (congrArg Int.ofNat e)
      rw [show ((i + 1 : Nat) : Int) = (i : Int) + 1 from rfl, show ((j' + 1 : Nat) : Int) - 1 = j' from Int.add_sub_cancel (j' : Int) 1]
      exact two_put _ _ _ _ _ _ _
    · rename_i hsp
      rw [hsp] at hitem
      have hne := of_decide_eq_false hitem.symm
      obtain ⟨e1, e2⟩ := strip_end hij hia (.inl (Int.ofNat.inj (Decidable.not_not.mp hne)))
      refine hQ _ ⟨h₁, _, t3, t4, rfl, ?_, N₁⟩
      rw [e1, e2]
      exact F₁
    · rename_i hz
      obtain ⟨e1, e2⟩ := strip_end hij hia (.inr (Int.ofNat.inj hz))
      refine hQ _ ⟨h₁, _, t3, t4, rfl, ?_, N₁⟩
      rw [e1, e2]
      exact F₁
  rintro s' ⟨h', tk', t3, t4, rfl, F', N'⟩
  have hq : k - a ≤ b := Nat.sub_le_iff_le_add'.mpr hk
  have hc := heap_cut a b k hk
  generalize hqe : k - a = q at *
  generalize hpe : min a k = p at *
  have hpa : p ≤ a := hpe ▸ Nat.min_le_left a k
  clear hqe hpe hk
  refine execs_cut (R := fun s' => ∃ (h' : Heap) (tk' : Nat) (t3 t4 t5 : Tok), s' = ⟨h', g, d, tk', os⟩ ∧ Fr B L' h' (put (bindM' (bindM' (fun x => [(u "s", Value.str (heapS a b) t1)].reverse.lookup x) (u "lpos") (some (.int (p : Nat) t3))) (u "amount") (some (.int (q : Int) t4))) (u "rpos") (.int ((a : Int) + b - ((0 : Nat) : Int)) t5)) ∧ News B L' h' ((L, fo) :: news)) ?_ ?_
  · intro Q' hQ
    have hlen := heap_len a b
    repeat' (first | (k_unfold; (try dsimp only)) | (walk1; (try dsimp only)) | (dsimp only; walk1))
    rename_i h₂ F₂ N₂
    rw [show ((heapS a b).length : Int) - 1 = (a : Int) + b - ((0 : Nat) : Int) by rw [hlen]; exact (Int.add_sub_cancel ((a : Int) + b) 1).trans (Int.sub_zero _).symm] at F₂
    exact hQ _ ⟨h₂, _, t3, t4, _, rfl, F₂, N₂⟩
  clear F' N'
  rintro s' ⟨h', tk', t3, t4, t5, rfl, F', N'⟩
  refine execs_cut (R := fun s' => ∃ (h' : Heap) (tk' : Nat) (t3 t4 t5 : Tok) (z : Int), s' = ⟨h', g, d, tk', os⟩ ∧ Fr B L' h' (bindM' (bindM' (bindM' (fun x => [(u "s", Value.str (heapS a b) t1)].reverse.lookup x) (u "lpos") (some (.int (p : Nat) t3))) (u "rpos") (some (.int ((a : Int) + b - q) t5))) (u "amount") (some (.int z t4))) ∧ News B L' h' ((L, fo) :: news)) ?_ ?_
  · intro Q' hQ
    refine While_inv (fun j m₁ news₁ => ∃ (i : Nat) (t5 t4 : Tok), i + j = q ∧ m₁ = bindM' (bindM' (bindM' (fun x => [(u "s", Value.str (heapS a b) t1)].reverse.lookup x) (u "lpos") (some (.int p t3))) (u "rpos") (some (.int ((a : Int) + b - i) t5))) (u "amount") (some (.int (j : Int) t4)) ∧ news₁ = (L, fo) :: news) F' N' (n₀ := q) ⟨0, t5, t4, Nat.zero_add q, ?_, rfl⟩ ?_
    · show put (bindM' _ _ _) _ _ = _
      rw [put_swap (by decide)]
    clear F' N' hc
    rintro j m₁ news₁ h₁ tk₁ F₁ N₁ ⟨i, t5, t4, hij, rfl, rfl⟩
    have hlen := heap_len a b
    have hib : i ≤ b := Nat.le_trans (Nat.le.intro hij) hq
    have h0 : (0 : Int) ≤ (a : Int) + b - i := by clear hij hq hab hd hpa hlen; omega
    have h1 : (a : Int) + b - i < a + b + 1 := by clear hij hq hab hd hpa hib hlen h0; omega
    have hitem := item_heap a b _ h0 h1
    generalize hs : heapS a b = s at *
    repeat' (first | (k_unfold; (try dsimp only)) | (walk1; (try dsimp only)) | (dsimp only; walk1))
    · rename_i hsp tka h₂ tkb h₃ F₃ N₃
      obtain ⟨j', rfl⟩ : ∃ j', j = j' + 1 := Nat.exists_eq_succ_of_ne_zero (fun e => by subst e; contradiction)
      refine WhileStep.intro F₃ N₃ (n' := j') (Nat.lt_succ_self _) ⟨i + 1, tka + 1, tkb + 1, ?_, ?_, rfl⟩
      · exact (Nat.succ_add_eq_add_succ i j').trans hij
      rw [show (a : Int) + b - ((i + 1 : Nat) : Int) = (a : Int) + b - i - 1 from (Int.sub_sub ((a : Int) + b) i 1).symm, show ((j' + 1 : Nat) : Int) - 1 = j' from Int.add_sub_cancel (j' : Int) 1]
      exact two_put _ _ _ _ _ _ _
    · rename_i hjz _ hsp
      rw [hsp] at hitem
      have hne := of_decide_eq_false hitem.symm
      clear hab hd hlen h0 h1 hpa hitem
      omega
    · rename_i hz
      obtain rfl : j = 0 := Int.ofNat.inj hz
      obtain rfl : i = q := hij
      exact hQ _ ⟨h₁, _, t3, t4, t5, ((0 : Nat) : Int), rfl, F₁, N₁⟩
  clear F' N'
  rintro s' ⟨h', tk', t3, t4, t5, z, rfl, F', N'⟩
  have hlen := heap_len a b
  repeat' (first | (k_unfold; (try dsimp only)) | (walk1; (try dsimp only)) | (dsimp only; walk1))
  rename_i F₂ N₂ _
  exact hR _ _ _ _ ⟨_, by rw [hc]; rfl⟩ F₂ N₂
end Mine
set_option maxRecDepth 100000
set_option maxHeartbeats 2000000
namespace Mine
open PySem PySem.W PySem.Calls PyProof.Rows
noncomputable def lawS (k : Nat) : List Stmt := (defBody (cell 20)).drop k
noncomputable abbrev envL (L : Addr) : Env := envOf (u "law") (defScope (cell 20)) L 216 (.ref 215)
/-- the map agrees with another but for some names -/
noncomputable def Agree (l : List Str) (m' m : Str → Option Value) : Prop := ∀ y, y ∉ l → m' y = m y
theorem Agree.refl (l : List Str) (m : Str → Option Value) : Agree l m m := fun _ _ => rfl
theorem Agree.put {l : List Str} {m' m : Str → Option Value} {x : Str} {v : Value} (h : Agree l m' m) (hx : x ∈ l) : Agree l (put m' x v) m := fun y hy => by
  have : y ≠ x := fun e => hy (e ▸ hx)
  unfold Mine.put
  rw [if_neg this]; exact h y hy
theorem filledLaw1 (P : Params) : PySem.Challenge.rw_wr0051_01 = PySem.Challenge.rw_wr0051_01 ∧ KK P = KK P := by k_fill; exact ⟨rfl, rfl⟩
theorem setL_of : ∀ {l : List Value} {k : Nat} {v : Value}, k < l.length → ki_setL l k v = some (l.set k v)
  | [], _, _, h => by simp at h
  | _ :: _, 0, _, _ => rfl
  | x :: r, k + 1, v, h => by
    have := setL_of (l := r) (k := k) (v := v) (by simpa using h)
    unfold ki_setL
    rw [this]; rfl
theorem IntsAre.setAt : ∀ {vs : List Value} {ns : List Int}, IntsAre vs ns → ∀ (k : Nat) (n : Int) (t : Tok), IntsAre (vs.set k (.int n t)) (ns.set k n)
  | _, _, .nil, _, _, _ => .nil
  | _, _, .cons m t' h, 0, n, t => .cons n t h
  | _, _, .cons m t' h, k + 1, n, t => .cons m t' (IntsAre.setAt h k n t)
/-- ten numbers -/
structure Nums (us : List Value) (vals : List Int) (top : Int) : Prop where
  areInts : IntsAre us vals
  ten : vals.length = 10
  bound : ∀ v ∈ vals, 0 ≤ v ∧ v ≤ top
theorem ph1 {w : World} {mean : ExcName → Option Value} {mg mb : Str → Option Value} {B : Heap} (T : Top₁ mean mg mb B) (X : (KK w.params).In B)
    {A : Around} {L S : Addr} {h : Heap} {g : Array GenState} {d : Drawn} {tk : Nat} {os : OsState} {base : List (Addr × Obj)} {m : Str → Option Value} {vs : List Value} {ns : List Int} {Q : Flow → Shared → Prop}
    (F : Fr B L h m) (N : News B L h base) (hS : B.IsList S vs.toArray) (hvs : IntsAre vs ns) (hn : ns.length ≤ 63) (hm : m (Str.ofString "script") = some (.ref S)) (hd : A.depth + 20 < recursionLimit) (hh : A.handled = none)
    (hQ : ∀ h' tk' Nm us vals c m', Nums us vals 100000000 → (∀ p ∈ base, p.1 ≠ Nm) → m' (Str.ofString "numbers") = some (.ref Nm) → Fr B L h' m' → News B L h' ((Nm, W.listOf us.toArray c) :: base) → wpAny (M₁ w) A (execs (lawS 2) (envL L)) Q (fun _ _ => False) ⟨h', g, d, tk', os⟩) :
    wpAny (M₁ w) A (execs (lawS 0) (envL L)) Q (fun _ _ => False) ⟨h, g, d, tk, os⟩ := by
  obtain ⟨ah, ad, af, ag, au⟩ := A
  obtain rfl : ah = none := hh
  rw [show lawS 0 = nthS (defBody (cell 20)) 0 :: lawS 1 from rfl]
  generalize hst : nthS (defBody (cell 20)) 0 = st
  refine execs_cut (R := fun s' => ∃ (h' : Heap) (tk' : Nat) (Nm : Addr) (us : List Value) (vals : List Int), s' = ⟨h', g, d, tk', os⟩ ∧ Nums us vals 22 ∧ (∀ p ∈ base, p.1 < Nm) ∧ Fr B L h' (put m (Str.ofString "numbers") (.ref Nm)) ∧ News B L h' ((Nm, W.listOf us.toArray 0) :: base)) ?_ ?_
  · intro Q' hQ'
    subst hst
    show wpAny _ _ (exec (Stmt.Assign [.Name _ _] (.List _ _) _) _) _ _ _
    repeat' (first | (k_unfold; (try dsimp only)) | (walk1; (try dsimp only)) | (dsimp only; walk1))
    rename_i Nm _ l1 h₁ F₁ N₁
    exact hQ' _ ⟨h₁, _, Nm, _, _, rfl, ⟨.cons _ _ (.cons _ _ (.cons _ _ (.cons _ _ (.cons _ _ (.cons _ _ (.cons _ _ (.cons _ _ (.cons _ _ (.cons _ _ .nil))))))))), rfl, by decide⟩, l1, F₁, N₁⟩
  clear F N
  rintro s' ⟨h₁, tk₁, Nm, us, vals, rfl, hnum, hlt, F₁, N₁⟩
  rw [show lawS 1 = nthS (defBody (cell 20)) 1 :: lawS 2 from rfl]
  generalize hst : nthS (defBody (cell 20)) 1 = st
  refine execs_cut (R := fun s' => ∃ (h' : Heap) (tk' : Nat) (us : List Value) (vals : List Int) (c : Nat) (m' : Str → Option Value), s' = ⟨h', g, d, tk', os⟩ ∧ Nums us vals 100000000 ∧ m' (Str.ofString "numbers") = some (.ref Nm) ∧ Fr B L h' m' ∧ News B L h' ((Nm, W.listOf us.toArray c) :: base)) ?_ ?_
  · intro Q' hQ'
    subst hst
    show wpAny _ _ (exec (Stmt.For (.Tuple [.Name _ _, .Name _ _] _ _) _ _ [] _) _) _ _ _
    refine for_pair (h₀ := B) rfl (by rfl) (by rfl) (by rfl) ?_
    repeat' (first | ((with_reducible show wpAny _ _ (eval (.Name _ _) _) _ _ _); refine' ld (by assumption) ?hv ?_; (case hv => first | exact rfl | assumption)) | ((fail_if_success (with_reducible show wpAny _ _ (pyIter _) _ _ _)); k_unfold; (try dsimp only)) | ((fail_if_success (with_reducible show wpAny _ _ (pyIter _) _ _ _)); walk1; (try dsimp only)) | (dsimp only; (fail_if_success (with_reducible show wpAny _ _ (pyIter _) _ _ _)); walk1))
    have F₂ := F₁.push { cls := .type "slice", data := .fields #[.none, .int 63 tk₁, .none] }
    have N₂ := N₁.push F₁ { cls := .type "slice", data := .fields #[.none, .int 63 tk₁, .none] }
    have hS₂ : (h₁.push { cls := .type "slice", data := .fields #[.none, .int 63 tk₁, .none] }).IsList S vs.toArray := hS.at fun o e => F₂.keep _ o e
    have z100 : 100 ≤ sizeLine := by decide
    have hvl : vs.length ≤ 63 := by have := hvs.length; omega
    refine sub_upto (l := S) (items := vs.toArray) (k := 63) hS₂ ⟨_, (N₂ _ (.head _)).1, rfl, rfl⟩ (by simp only [List.size_toArray]; omega) ?_
    have e63 : (vs.toArray.toList.take 63).toArray = vs.toArray := by
      rw [List.take_of_length_le (by simpa using hvl)]
    rw [e63]
    have F₃ := F₂.push (W.listOf vs.toArray 0)
    have N₃ := N₂.push F₂ (W.listOf vs.toArray 0)
    have hND : Nm < (h₁.push { cls := .type "slice", data := .fields #[.none, .int 63 tk₁, .none] }).objs.size := by
      rw [Heap.size_push]; exact Nat.lt_succ_of_lt (Heap.lt_size (N₁ _ (.head _)).1)
    generalize hD : (h₁.push { cls := .type "slice", data := .fields #[.none, .int 63 tk₁, .none] }).objs.size = D at *
    generalize hh₃ : ((h₁.push { cls := .type "slice", data := .fields #[.none, .int 63 tk₁, .none] }).push (W.listOf vs.toArray 0)) = h₃ at *
    dsimp only
    clear F₂ N₂ hS₂
    repeat' (first | ((with_reducible show wpAny _ _ (eval (.Name _ _) _) _ _ _); refine' ld (by assumption) ?hv ?_; (case hv => first | exact rfl | assumption)) | ((fail_if_success (with_reducible show wpAny _ _ (call _ _) _ _ _)); k_unfold; (try dsimp only)) | ((fail_if_success (with_reducible show wpAny _ _ (call _ _) _ _ _)); walk1; (try dsimp only)) | (dsimp only; (fail_if_success (with_reducible show wpAny _ _ (call _ _) _ _ _)); walk1))
    refine call_enumerate_1 (N₃ _ (.head _)).1 ?_
    intro h₄ he hit hsz hk
    refine wpAny_pyIter_enum he ?_
    have hlt₃ : ∀ p ∈ (D, W.listOf vs.toArray 0) :: (h₁.objs.size, { cls := .type "slice", data := .fields #[.none, .int 63 tk₁, .none] }) :: (Nm, W.listOf us.toArray 0) :: base, p.1 < h₃.objs.size := fun p hp => Heap.lt_size (N₃ p hp).1
    have hLlt : L < h₃.objs.size := F₃.ns.lt
    have hBsz : B.objs.size ≤ h₃.objs.size := frame_size F₃
    have F₄ : Fr B L h₄ (put m (Str.ofString "numbers") (.ref Nm)) := ⟨F₃.ns.at' fun o e => hk _ o e, fun b o e => hk b o (F₃.keep b o e), F₃.above⟩
    have N₄ : News B L h₄ ((D, W.listOf vs.toArray 0) :: (Nm, W.listOf us.toArray 0) :: base) := by
      intro p hp
      rcases List.mem_cons.mp hp with rfl | hp
      · exact ⟨hk _ _ (N₃ _ (.head _)).1, (N₃ _ (.head _)).2⟩
      · have z := N₃ p (.tail _ (.tail _ hp)); exact ⟨hk _ _ z.1, z.2⟩
    refine ⟨_, _, [h₃.objs.size + 1, h₃.objs.size], vs.toArray.size, _, _, _, _, _, [(D, W.listOf vs.toArray 0)], fun i m' n' => ∃ us' vals' c', Nums us' vals' (22 + 1000000 * i) ∧ m' (Str.ofString "numbers") = some (.ref Nm) ∧ n' = (D, W.listOf vs.toArray 0) :: (Nm, W.listOf us'.toArray c') :: base,
      rfl, (WalksT.enumerate rfl (h₃.objs.size + 1) h₃.objs.size D (Nat.succ_ne_self _) (Nat.ne_of_lt (Nat.lt_succ_of_lt (hlt₃ _ (.head _)))) (Nat.ne_of_lt (hlt₃ _ (.head _))) vs.toArray).toU, ?_, ?_, ?_, ?_, ?_, ?_, ⟨⟨_, he⟩, hit, ⟨_, (N₄ _ (.head _)).1, rfl, _, rfl⟩⟩, F₄, N₄, ?_, ⟨us, vals, 0, hnum, rfl, rfl⟩, ?_, ?_⟩
    · rintro i v ⟨t, x, _, rfl⟩; exact ⟨_, _, rfl⟩
    · intro hm'
      rcases List.mem_cons.mp hm' with e | hm'
      · exact absurd e (Nat.ne_of_lt (Nat.lt_succ_of_lt hLlt))
      · exact absurd (List.mem_singleton.mp hm') (Nat.ne_of_lt hLlt)
    · intro b hb
      rcases List.mem_cons.mp hb with rfl | hb
      · exact get_none_of_size (Nat.le_succ_of_le hBsz)
      · rw [List.mem_singleton.mp hb]; exact get_none_of_size hBsz
    · rintro i hp ⟨⟨old, he'⟩, ⟨o, hit', _⟩, _⟩ b hb
      rcases List.mem_cons.mp hb with rfl | hb
      · exact ⟨_, he'⟩
      · rw [List.mem_singleton.mp hb]; exact ⟨o, hit'⟩
    · intro b hb
      rcases List.mem_cons.mp hb with rfl | hb
      · exact .inl (.head _)
      rcases List.mem_cons.mp hb with rfl | hb
      · exact .inl (.tail _ (.head _))
      · rw [List.mem_singleton.mp hb]; exact .inr ⟨_, .head _⟩
    · intro p hp hm'
      have hp3 : p.1 < h₃.objs.size := by
        rcases List.mem_cons.mp hp with rfl | hp
        · exact hlt₃ _ (.head _)
        · exact hlt₃ p (.tail _ (.tail _ hp))
      rcases List.mem_cons.mp hm' with e | hm'
      · exact absurd e (Nat.ne_of_lt (Nat.lt_succ_of_lt hp3))
      · exact absurd (List.mem_singleton.mp hm') (Nat.ne_of_lt hp3)
    · rintro i m' n' ⟨us', vals', c', _, _, rfl⟩ p hp
      rw [List.mem_singleton.mp hp]; exact .head _
    · rintro i va vb m₁ news₁ h₅ tk₅ ob Q₁ hi ⟨t, x, hx, hvv⟩ ⟨us', vals', c', hnum', hm1, rfl⟩ hne F₅ N₅ hnext hret
      obtain ⟨rfl, rfl⟩ : va = .int i t ∧ vb = x := by
        have := congrArg Array.toList hvv; simpa using this
      have hi63 : i < 63 := by simp only [List.size_toArray] at hi; omega
      obtain ⟨n, hn'⟩ : ∃ n, ns[i]? = some n := by
        have := hvs.length
        simp only [List.size_toArray] at hi
        exact ⟨ns[i], List.getElem?_eq_getElem (by omega)⟩
      obtain ⟨tx, hvx⟩ := hvs.get i n hn'
      obtain rfl : vb = .int n tx := by
        have : vs[i]? = some vb := by simpa using hx
        rw [this] at hvx; exact Option.some.inj hvx
      dsimp only at *
      replace F₅ : Fr B L h₅ (put (put m₁ (Str.ofString "k") (.int i t)) (Str.ofString "x") (.int n tx)) := F₅
      replace N₅ : News B L h₅ ((h₃.objs.size + 1, ob (h₃.objs.size + 1)) :: (h₃.objs.size, ob h₃.objs.size) :: (D, W.listOf vs.toArray 0) :: (Nm, W.listOf us'.toArray c') :: base) := N₅
      clear N₄ F₄ he hit N₃ F₃
      repeat' (first | ((with_reducible show wpAny _ _ (eval (.Name _ _) _) _ _ _); refine' ld (by assumption) ?hv ?_; (case hv => first | exact rfl | assumption)) | ((fail_if_success (with_reducible show wpAny _ _ (getItem _ _) _ _ _)); k_unfold; (try dsimp only)) | ((fail_if_success (with_reducible show wpAny _ _ (getItem _ _) _ _ _)); walk1; (try dsimp only)) | (dsimp only; (fail_if_success (with_reducible show wpAny _ _ (getItem _ _) _ _ _)); walk1))
      have hr0 : 0 ≤ (i : Int).fmod 10 := Int.fmod_nonneg (by omega) (by decide)
      have hr1 : (i : Int).fmod 10 < 10 := Int.fmod_lt_of_pos _ (by decide)
      generalize (i : Int).fmod 10 = r at *
      obtain ⟨v0, hv0⟩ : ∃ v0, vals'[r.toNat]? = some v0 := by
        have := hnum'.ten
        exact ⟨vals'[r.toNat], List.getElem?_eq_getElem (by omega)⟩
      obtain ⟨tv, hus⟩ := hnum'.areInts.get r.toNat v0 hv0
      have hb0 := hnum'.bound v0 (List.mem_of_getElem? hv0)
      have hx0 : 0 ≤ n.fmod 1000000 := Int.fmod_nonneg_of_pos _ (by decide)
      have hx1 : n.fmod 1000000 < 1000000 := Int.fmod_lt_of_pos _ (by decide)
      refine wpAny_getItem_list (l := Nm) (items := us'.toArray) ⟨_, (N₅ _ (.tail _ (.tail _ (.tail _ (.head _))))).1, rfl, _, rfl⟩ hr0 (by omega) (by simpa using hus) ?_
      repeat' (first | ((with_reducible show wpAny _ _ (eval (.Name _ _) _) _ _ _); refine' ld (by assumption) ?hv ?_; (case hv => first | exact rfl | assumption)) | ((fail_if_success (with_reducible show wpAny _ _ (setItem _ _ _) _ _ _)); k_unfold; (try dsimp only)) | ((fail_if_success (with_reducible show wpAny _ _ (setItem _ _ _) _ _ _)); walk1; (try dsimp only)) | (dsimp only; (fail_if_success (with_reducible show wpAny _ _ (setItem _ _ _) _ _ _)); walk1))
      have hul : us'.length = 10 := by have := hnum'.areInts.length; have := hnum'.ten; omega
      refine ki_set F₅ N₅ hr0 (by omega) (setL_of (l := us'.toArray.toList) (by simp; omega)) (.tail ?_ (.tail ?_ (.tail (Nat.ne_of_gt hND) (.head fun p hp => Nat.ne_of_lt (hlt p hp))))) ?_
      · exact fun z => hne _ (.tail _ (.head _)) (z ▸ .head _)
      · exact fun z => hne _ (.tail _ (.head _)) (z ▸ .tail _ (.head _))
      intro h₆ F₆ N₆
      refine wpAny_execs_nil ?_
      refine hnext h₆ _ _ ((D, W.listOf vs.toArray 0) :: (Nm, _) :: base) F₆ N₆ (fun p hp => ?_) ⟨_, vals'.set r.toNat _, c', ⟨IntsAre.setAt hnum'.areInts r.toNat _ _, by simp [hnum'.ten], ?_⟩, hm1, rfl⟩
      · rcases List.mem_cons.mp hp with rfl | hp
        · exact hne _ (.head _)
        rcases List.mem_cons.mp hp with rfl | hp
        · exact hne (Nm, W.listOf us'.toArray c') (.tail _ (.head _))
        · exact hne _ (.tail _ (.tail _ hp))
      · intro v hv
        rcases List.mem_or_eq_of_mem_set hv with hv | rfl
        · have := hnum'.bound v hv; omega
        · have e6 : (10 : Int) ^ Int.toNat 6 = 1000000 := by decide
          rw [e6]; omega
    · rintro h' tk' m' news' F' N' ⟨us', vals', c', hnum', hm1, rfl⟩
      refine hQ' _ ⟨h', tk', us', vals', c', m', rfl, ⟨hnum'.areInts, hnum'.ten, fun v hv => ?_⟩, hm1, F', fun p hp => N' p (.tail _ hp)⟩
      have := hnum'.bound v hv
      simp only [List.size_toArray] at this
      omega
  rintro s' ⟨h₂, tk₂, us', vals', c', m', rfl, hnum', hm', F₂, N₂⟩
  exact hQ h₂ tk₂ Nm us' vals' c' m' hnum' (fun p hp => Nat.ne_of_lt (hlt p hp)) hm' F₂ N₂
end Mine
set_option maxRecDepth 100000
set_option maxHeartbeats 2000000
namespace Mine
open PySem PySem.W PySem.Calls PyProof.Rows
theorem filledLaw2 (P : Params) : PySem.Challenge.rw_wr0051_01 = PySem.Challenge.rw_wr0051_01 ∧ KK P = KK P := by k_fill; exact ⟨rfl, rfl⟩
theorem int_uncons {us : List Value} {vals : List Int} {n : Nat} {P : List Value → List Int → Prop} (h : IntsAre us vals) (hl : vals.length = n + 1) (H : ∀ a t us' vals', IntsAre us' vals' → vals'.length = n → P (.int a t :: us') (a :: vals')) : P us vals := by
  cases vals with
  | nil => cases hl
  | cons a r =>
    obtain ⟨t, u, rfl, k⟩ := h.cons_inv
    exact H a t u r k (Nat.succ.inj hl)
theorem five_ints {P : List Value → List Int → Prop} {us : List Value} {vals : List Int} {n : Nat} (h : IntsAre us vals) (hl : vals.length = n + 5)
    (H : ∀ a0 a1 a2 a3 a4 t0 t1 t2 t3 t4 us' vals', IntsAre us' vals' → vals'.length = n → P (.int a0 t0 :: .int a1 t1 :: .int a2 t2 :: .int a3 t3 :: .int a4 t4 :: us') (a0 :: a1 :: a2 :: a3 :: a4 :: vals')) : P us vals :=
  int_uncons h hl fun a0 t0 _ _ h hl => int_uncons (P := fun u v => P (_ :: u) (_ :: v)) h hl fun a1 t1 _ _ h hl => int_uncons (P := fun u v => P (_ :: _ :: u) (_ :: _ :: v)) h hl fun a2 t2 _ _ h hl =>
    int_uncons (P := fun u v => P (_ :: _ :: _ :: u) (_ :: _ :: _ :: v)) h hl fun a3 t3 _ _ h hl => int_uncons (P := fun u v => P (_ :: _ :: _ :: _ :: u) (_ :: _ :: _ :: _ :: v)) h hl fun a4 t4 _ _ h hl => H a0 a1 a2 a3 a4 t0 t1 t2 t3 t4 _ _ h hl
theorem ten_ints {us : List Value} {vals : List Int} (h : IntsAre us vals) (hl : vals.length = 10) : ∃ a0 a1 a2 a3 a4 a5 a6 a7 a8 a9 t0 t1 t2 t3 t4 t5 t6 t7 t8 t9, vals = [a0, a1, a2, a3, a4, a5, a6, a7, a8, a9] ∧
    us = [.int a0 t0, .int a1 t1, .int a2 t2, .int a3 t3, .int a4 t4, .int a5 t5, .int a6 t6, .int a7 t7, .int a8 t8, .int a9 t9] :=
  five_ints (P := fun us vals => ∃ a0 a1 a2 a3 a4 a5 a6 a7 a8 a9 t0 t1 t2 t3 t4 t5 t6 t7 t8 t9, vals = [a0, a1, a2, a3, a4, a5, a6, a7, a8, a9] ∧
    us = [.int a0 t0, .int a1 t1, .int a2 t2, .int a3 t3, .int a4 t4, .int a5 t5, .int a6 t6, .int a7 t7, .int a8 t8, .int a9 t9]) h hl
    fun b0 b1 b2 b3 b4 s0 s1 s2 s3 s4 _ _ h hl => five_ints (n := 0) (P := fun us vals => ∃ a0 a1 a2 a3 a4 a5 a6 a7 a8 a9 t0 t1 t2 t3 t4 t5 t6 t7 t8 t9, b0 :: b1 :: b2 :: b3 :: b4 :: vals = [a0, a1, a2, a3, a4, a5, a6, a7, a8, a9] ∧
      .int b0 s0 :: .int b1 s1 :: .int b2 s2 :: .int b3 s3 :: .int b4 s4 :: us = [.int a0 t0, .int a1 t1, .int a2 t2, .int a3 t3, .int a4 t4, .int a5 t5, .int a6 t6, .int a7 t7, .int a8 t8, .int a9 t9]) h hl
      fun b5 b6 b7 b8 b9 s5 s6 s7 s8 s9 _ _ h hl => by
        obtain rfl := List.eq_nil_of_length_eq_zero hl
        obtain rfl := h.nil_inv
        exact ⟨b0, b1, b2, b3, b4, b5, b6, b7, b8, b9, s0, s1, s2, s3, s4, s5, s6, s7, s8, s9, rfl, rfl⟩
theorem ph2 {w : World} {mean : ExcName → Option Value} {mg mb : Str → Option Value} {B : Heap} (T : Top₁ mean mg mb B) (X : (KK w.params).In B)
    {A : Around} {L Nm : Addr} {h : Heap} {g : Array GenState} {d : Drawn} {tk c : Nat} {os : OsState} {base : List (Addr × Obj)} {m : Str → Option Value} {us : List Value} {vals : List Int} {Q : Flow → Shared → Prop}
    (F : Fr B L h m) (N : News B L h ((Nm, W.listOf us.toArray c) :: base)) (hnum : Nums us vals 100000000) (hne : ∀ p ∈ base, p.1 ≠ Nm) (hm : m (Str.ofString "numbers") = some (.ref Nm)) (hd : A.depth + 20 < recursionLimit) (hh : A.handled = none)
    (hQ : ∀ h' tk' (Wd : Addr) m' (total limit first ahead n : Nat) t1 t2 t3 t4 t5 t6, 2 ≤ total → total ≤ 21 → 1 ≤ limit → limit ≤ 12 → first ≤ 2 → ahead ≤ total →
      m' (Str.ofString "numbers") = some (.ref Nm) → m' (Str.ofString "total") = some (.int total t1) → m' (Str.ofString "limit") = some (.int limit t2) → m' (Str.ofString "first") = some (.int first t3) → m' (Str.ofString "ahead") = some (.int ahead t4) →
      m' (Str.ofString "words") = some (.ref Wd) → m' (Str.ofString "n") = some (.int n t5) → (∀ p ∈ (Nm, W.listOf us.toArray c) :: base, p.1 ≠ Wd) →
      Fr B L h' m' → News B L h' ((Wd, W.listOf #[.str (txt [102]) t6] 0) :: (Nm, W.listOf us.toArray c) :: base) → wpAny (M₁ w) A (execs (lawS 5) (envL L)) Q (fun _ _ => False) ⟨h', g, d, tk', os⟩) :
    wpAny (M₁ w) A (execs (lawS 2) (envL L)) Q (fun _ _ => False) ⟨h, g, d, tk, os⟩ := by
  obtain ⟨ah, ad, af, ag, au⟩ := A
  obtain rfl : ah = none := hh
  obtain ⟨a0, a1, a2, a3, a4, a5, a6, a7, a8, a9, t0, t1, t2, t3, t4, t5, t6, t7, t8, t9, hv, hu⟩ := ten_ints hnum.areInts hnum.ten
  have b0 := hnum.bound a0 (by rw [hv]; simp)
  have b1 := hnum.bound a1 (by rw [hv]; simp)
  have b2 := hnum.bound a2 (by rw [hv]; simp)
  have b3 := hnum.bound a3 (by rw [hv]; simp)
  subst hv hu
  have q0 : 0 ≤ a0.fmod 20 := Int.fmod_nonneg_of_pos _ (by decide)
  have q0' : a0.fmod 20 < 20 := Int.fmod_lt_of_pos _ (by decide)
  have q1 : 0 ≤ a1.fmod 12 := Int.fmod_nonneg_of_pos _ (by decide)
  have q1' : a1.fmod 12 < 12 := Int.fmod_lt_of_pos _ (by decide)
  have q2 : 0 ≤ a2.fmod 3 := Int.fmod_nonneg_of_pos _ (by decide)
  have q2' : a2.fmod 3 < 3 := Int.fmod_lt_of_pos _ (by decide)
  obtain ⟨total, ht⟩ : ∃ total : Nat, 2 + a0.fmod 20 = (total : Int) := ⟨(2 + a0.fmod 20).toNat, by omega⟩
  obtain ⟨limit, hl⟩ : ∃ limit : Nat, 1 + a1.fmod 12 = (limit : Int) := ⟨(1 + a1.fmod 12).toNat, by omega⟩
  obtain ⟨first, hf⟩ : ∃ first : Nat, a2.fmod 3 = (first : Int) := ⟨(a2.fmod 3).toNat, by omega⟩
  rw [show lawS 2 = nthS (defBody (cell 20)) 2 :: lawS 3 from rfl]
  generalize hst : nthS (defBody (cell 20)) 2 = st
  refine execs_cut (R := fun s' => ∃ (h' : Heap) (tk' : Nat) (u1 u2 : Tok) (m' : Str → Option Value), s' = ⟨h', g, d, tk', os⟩ ∧ m' (Str.ofString "numbers") = some (.ref Nm) ∧ m' (Str.ofString "total") = some (.int total u1) ∧ m' (Str.ofString "limit") = some (.int limit u2) ∧ Fr B L h' m' ∧ News B L h' ((Nm, W.listOf #[.int a0 t0, .int a1 t1, .int a2 t2, .int a3 t3, .int a4 t4, .int a5 t5, .int a6 t6, .int a7 t7, .int a8 t8, .int a9 t9] c) :: base)) ?_ ?_
  · intro Q' hQ'
    subst hst
    show wpAny _ _ (exec (Stmt.Assign [.Tuple _ _ _] (.Tuple _ _ _) _) _) _ _ _
    repeat' (first | ((with_reducible show wpAny _ _ (eval (.Name _ _) _) _ _ _); refine' ld (by assumption) ?hv ?_; (case hv => first | exact rfl | assumption)) | (k_unfold; (try dsimp only)) | (walk1; (try dsimp only)) | (dsimp only; walk1))
    rename_i F₁ N₁
    refine' hQ' _ ⟨_, _, ?u1, ?u2, _, rfl, ?a, ?b, ?c, F₁, fun p hp => N₁ p (.tail _ hp)⟩
    case a => exact hm
    case b => rw [← ht]; rfl
    case c => rw [← hl]; rfl
  clear F N hm
  rintro s' ⟨h₁, tk₁, u1, u2, m₁, rfl, hm1, hm2, hm3, F, N⟩
  have q3 : 0 ≤ (a2.fdiv 3).fmod ((total : Int) + 1) := Int.fmod_nonneg_of_pos _ (by omega)
  have q3' : (a2.fdiv 3).fmod ((total : Int) + 1) < (total : Int) + 1 := Int.fmod_lt_of_pos _ (by omega)
  obtain ⟨ahead, ha⟩ : ∃ ahead : Nat, (a2.fdiv 3).fmod ((total : Int) + 1) = (ahead : Int) := ⟨((a2.fdiv 3).fmod ((total : Int) + 1)).toNat, by omega⟩
  have htp : ((total : Int) + 1) ≠ 0 := by omega
  have htp2 : 0 < ((total : Int) + 1) := by omega
  rw [show lawS 3 = nthS (defBody (cell 20)) 3 :: lawS 4 from rfl]
  generalize hst : nthS (defBody (cell 20)) 3 = st
  refine execs_cut (R := fun s' => ∃ (h' : Heap) (tk' : Nat) (u3 u4 : Tok) (m' : Str → Option Value), s' = ⟨h', g, d, tk', os⟩ ∧ m' (Str.ofString "numbers") = some (.ref Nm) ∧ m' (Str.ofString "total") = some (.int total u1) ∧ m' (Str.ofString "limit") = some (.int limit u2) ∧ m' (Str.ofString "first") = some (.int first u3) ∧ m' (Str.ofString "ahead") = some (.int ahead u4) ∧ Fr B L h' m' ∧ News B L h' ((Nm, W.listOf #[.int a0 t0, .int a1 t1, .int a2 t2, .int a3 t3, .int a4 t4, .int a5 t5, .int a6 t6, .int a7 t7, .int a8 t8, .int a9 t9] c) :: base)) ?_ ?_
  · intro Q' hQ'
    subst hst
    show wpAny _ _ (exec (Stmt.Assign [.Tuple _ _ _] (.Tuple _ _ _) _) _) _ _ _
    repeat' (first | ((with_reducible show wpAny _ _ (eval (.Name _ _) _) _ _ _); refine' ld (by assumption) ?hv ?_; (case hv => first | exact rfl | assumption)) | (k_unfold; (try dsimp only)) | (walk1; (try dsimp only)) | (dsimp only; walk1))
    rename_i F₁ N₁
    refine' hQ' _ ⟨_, _, ?u3, ?u4, _, rfl, ?a, ?b, ?c, ?d, ?e, F₁, fun p hp => N₁ p (.tail _ hp)⟩
    case a => exact hm1
    case b => exact hm2
    case c => exact hm3
    case d => rw [← hf]; rfl
    case e => rw [← ha]; rfl
  clear F N
  rintro s' ⟨h₂, tk₂, u3, u4, m₂, rfl, hn1, hn2, hn3, hn4, hn5, F, N⟩
  obtain ⟨n, hn⟩ : ∃ n : Nat, a3 = (n : Int) := ⟨a3.toNat, by omega⟩
  rw [show lawS 4 = nthS (defBody (cell 20)) 4 :: lawS 5 from rfl]
  generalize hst : nthS (defBody (cell 20)) 4 = st
  refine execs_cut (R := fun s' => ∃ (h' : Heap) (tk' : Nat) (u5 u6 : Tok) (Wd : Addr) (m' : Str → Option Value), s' = ⟨h', g, d, tk', os⟩ ∧ m' (Str.ofString "numbers") = some (.ref Nm) ∧ m' (Str.ofString "total") = some (.int total u1) ∧ m' (Str.ofString "limit") = some (.int limit u2) ∧ m' (Str.ofString "first") = some (.int first u3) ∧ m' (Str.ofString "ahead") = some (.int ahead u4) ∧
      m' (Str.ofString "words") = some (.ref Wd) ∧ m' (Str.ofString "n") = some (.int n u5) ∧ (∀ p ∈ (Nm, W.listOf #[.int a0 t0, .int a1 t1, .int a2 t2, .int a3 t3, .int a4 t4, .int a5 t5, .int a6 t6, .int a7 t7, .int a8 t8, .int a9 t9] c) :: base, p.1 ≠ Wd) ∧ Fr B L h' m' ∧ News B L h' ((Wd, W.listOf #[.str (txt [102]) u6] 0) :: (Nm, W.listOf #[.int a0 t0, .int a1 t1, .int a2 t2, .int a3 t3, .int a4 t4, .int a5 t5, .int a6 t6, .int a7 t7, .int a8 t8, .int a9 t9] c) :: base)) ?_ ?_
  · intro Q' hQ'
    subst hst
    show wpAny _ _ (exec (Stmt.Assign [.Tuple _ _ _] (.Tuple _ _ _) _) _) _ _ _
    repeat' (first | ((with_reducible show wpAny _ _ (eval (.Name _ _) _) _ _ _); refine' ld (by assumption) ?hv ?_; (case hv => first | exact rfl | assumption)) | (k_unfold; (try dsimp only)) | (walk1; (try dsimp only)) | (dsimp only; walk1))
    rename_i Wd _ l1 _ D _ _ _ _ _ F₁ N₁
    refine' hQ' _ ⟨_, _, ?u5, ?u6, Wd, _, rfl, ?a, ?b, ?c, ?d, ?e, ?f, ?g, ?h, F₁, fun p hp => N₁ p (.tail _ hp)⟩
    case a => exact hn1
    case b => exact hn2
    case c => exact hn3
    case d => exact hn4
    case e => exact hn5
    case f => rfl
    case g => rw [← hn]; rfl
    case h =>
      intro p hp
      rcases List.mem_cons.mp hp with rfl | hp
      · exact Nat.ne_of_lt l1.1
      · exact Nat.ne_of_lt (AllLt.lt l1.2 p hp)
  rintro s' ⟨h₃, tk₃, u5, u6, Wd, m₃, rfl, e1, e2, e3, e4, e5, e6, e7, e8, F, N⟩
  exact hQ h₃ tk₃ Wd m₃ total limit first ahead n u1 u2 u3 u4 u5 u6 (by omega) (by omega) (by omega) (by omega) (by omega) (by omega) e1 e2 e3 e4 e5 e6 e7 e8 F N
end Mine
set_option maxRecDepth 100000
set_option maxHeartbeats 1000000
namespace Mine
open PySem PySem.W PySem.Calls PyProof.Rows
open Sem (wp)
theorem StrsTxt.push {vs : List Value} {ws : List (List Nat)} {a : List Nat} {t : Tok} (h : StrsTxt vs ws) : StrsTxt (vs ++ [.str (txt a) t]) (ws ++ [a]) := by
  obtain ⟨h1, h2⟩ := h
  refine ⟨by simp [h1], fun i w hi => ?_⟩
  rcases Nat.lt_trichotomy i ws.length with hlt | heq | hgt
  · rw [List.getElem?_append_left hlt] at hi
    obtain ⟨t', e⟩ := h2 i w hi
    exact ⟨t', by rw [List.getElem?_append_left (by omega)]; exact e⟩
  · subst heq
    rw [List.getElem?_append_right (Nat.le_refl _), Nat.sub_self] at hi
    obtain rfl : a = w := Option.some.inj hi
    exact ⟨t, by rw [List.getElem?_append_right (by omega), h1, Nat.sub_self]; rfl⟩
  · rw [List.getElem?_eq_none (by simp; omega)] at hi; cases hi
theorem take_step {y : List Nat} {i c : Nat} (h : y[i]? = some c) : y.take (i + 1) = y.take i ++ [c] := by
  rw [List.take_add_one, h]; rfl
/-- a list comprehension over the signs of a text, with one test; test and element may call -/
theorem comp_str {w : World} {mean : ExcName → Option Value} {mg mb : Str → Option Value} {B : Heap} (T : Top₁ mean mg mb B) {A : Around} {L : Addr} {h : Heap} {g : Array GenState} {d : Drawn} {tk : Nat} {os : OsState} {news : List (Addr × Obj)} {m : Str → Option Value}
    {env : Env} {elt test iter : Expr} {x : Str} {px pos : Pos} {scope : Scope} {y : List Nat} {ty : Tok} {p : Nat → Bool} {f : Nat → List Nat} {Q E : Value → Shared → Prop}
    (F : Fr B L h m) (N : News B L h news) (hh : A.handled = none) (hy : y.length ≤ 500)
    (hiter : ∀ (Q : Value → Shared → Prop) (E : Value → Shared → Prop), Q (.str (txt y) ty) ⟨h, g, d, tk, os⟩ → wpAny (M₁ w) A (eval iter env) Q E ⟨h, g, d, tk, os⟩)
    (htest : ∀ (C : Addr) (h' : Heap) (tk' : Nat) (mC : Str → Option Value) (nw : List (Addr × Obj)) (c : Nat) (tc : Tok) (i : Nat) (Qt : Bool → Shared → Prop) (E : Value → Shared → Prop), y[i]? = some c → Fr B C h' mC → mC x = some (.str (txt [c]) tc) → News B C h' nw →
      (∀ h'' tk'', Fr B C h'' mC → News B C h'' nw → Qt (p c) ⟨h'', g, d, tk'', os⟩) → wpAny (M₁ w) A (isTrue test (compEnv scope C env) (eval test (compEnv scope C env))) Qt E ⟨h', g, d, tk', os⟩)
    (helt : ∀ (C : Addr) (h' : Heap) (tk' : Nat) (mC : Str → Option Value) (nw : List (Addr × Obj)) (c : Nat) (tc : Tok) (i : Nat) (Qt : Value → Shared → Prop) (E : Value → Shared → Prop), y[i]? = some c → p c = true → Fr B C h' mC → mC x = some (.str (txt [c]) tc) → News B C h' nw →
      (∀ h'' tk'' t, Fr B C h'' mC → News B C h'' nw → Qt (.str (txt (f c)) t) ⟨h'', g, d, tk'', os⟩) → wpAny (M₁ w) A (eval elt (compEnv scope C env)) Qt E ⟨h', g, d, tk', os⟩)
    (hQ : ∀ h' tk' D ys c', StrsTxt ys ((y.filter p).map f) → (∀ q ∈ news, q.1 < D) → L < D → Fr B L h' m → News B L h' ((D, W.listOf ys.toArray c') :: news) → Q (.ref D) ⟨h', g, d, tk', os⟩)
    (hfree : ∀ y ∈ scope.names, y.2 ≠ .free) (hcell : ∀ y ∈ scope.names, y.2 ≠ .cell) (hkind : scope.kind = .function) (hnames : ∀ y ∈ scope.names, y.2 = .local → scope.names.lookup y.1 = some .local) (hx : scope.names.lookup x = some .local)
    (hs : ∀ x, foldedSetIterable iter env x = pure x := by intro _; rfl) :
    wpAny (M₁ w) A (eval (.ListComp elt [⟨.Name x px, iter, [test], 0⟩] scope pos) env) Q E ⟨h, g, d, tk, os⟩ := by
  refine wpAny_ListComp hfree hkind hnames (hiter _ _ ?_) hs
  refine pyIter_str' ?_
  intro o St Wk hst hio
  dsimp only at hst hio ⊢
  obtain ⟨fo, hfo⟩ := frame_at F
  have F₁ := F.push o
  have N₁ : News B L (h.push o) news := fun q hq => ⟨Heap.get?_push_of_some _ (N q hq).1, (N q hq).2⟩
  have hIsz : (h.push o).objs.size = h.objs.size + 1 := Heap.size_push ..
  refine wpAny_newObj_type ?_
  dsimp only
  have F₂ := F₁.push { cls := .type "list", data := .seq ([] : List Value).toArray }
  have N₂ := N₁.push F₁ { cls := .type "list", data := .seq ([] : List Value).toArray }
  have hst₂ : St 0 ((h.push o).push { cls := .type "list", data := .seq ([] : List Value).toArray }) := (Wk A hh).frame _ _ _ hst fun b hb ob e => Heap.get?_push_of_some _ e
  refine wpAny_newFunctionEnv hcell (by intro y hy; simp at hy) (fun h₃ hns₃ hsb₃ => ?_) hkind
  dsimp only at hns₃ hsb₃ ⊢
  generalize hH2 : (h.push o).push { cls := .type "list", data := .seq ([] : List Value).toArray } = H2 at *
  have hH2sz : H2.objs.size = h.objs.size + 2 := by rw [← hH2, Heap.size_push, hIsz]
  generalize hC : H2.objs.size = C at *
  rw [hIsz] at N₂ ⊢
  have keep₃ : ∀ b o, H2.get? b = some o → h₃.get? b = some o := fun b o e => hsb₃.extBut b o (by rw [← hC]; exact Nat.ne_of_lt (Heap.lt_size e)) (Heap.get?_push_of_some _ e)
  have hBC : B.objs.size ≤ C := by rw [← hC]; exact frame_size F₂
  have hLC : L < C := by rw [← hC]; exact F₂.ns.lt
  have hIC : h.objs.size < C := by rw [hH2sz]; exact Nat.lt_succ_of_lt (Nat.lt_succ_self _)
  have FC : Fr B C h₃ (fun x => List.lookup x ([] : List (Str × Value)).reverse) := ⟨hns₃, fun b o e => keep₃ b o (F₂.keep b o e), hBC⟩
  have NC : News B C h₃ ((h.objs.size + 1, W.listOf #[] 0) :: (L, fo) :: news) := by
    intro q hq
    rcases List.mem_cons.mp hq with rfl | hq
    · have z := N₂ _ (.head _); exact ⟨keep₃ _ _ z.1, by rw [← hC]; exact Nat.ne_of_lt (Heap.lt_size z.1), z.2.2⟩
    rcases List.mem_cons.mp hq with rfl | hq
    · refine ⟨keep₃ _ _ ?_, Nat.ne_of_lt hLC, get_none_of_size F.above⟩
      rw [← hH2]; exact Heap.get?_push_of_some _ (Heap.get?_push_of_some _ hfo)
    · have z := N₂ _ (.tail _ hq); exact ⟨keep₃ _ _ z.1, by rw [← hC]; exact Nat.ne_of_lt (Heap.lt_size z.1), z.2.2⟩
  have hst₃ : St 0 h₃ := (Wk A hh).frame _ _ _ hst₂ fun b _ o e => keep₃ b o e
  have hBI : B.get? h.objs.size = none := get_none_of_size (frame_size F)
  have hlt : ∀ q ∈ news, q.1 < h.objs.size := fun q hq => Heap.lt_size (N q hq).1
  have hLI : L < h.objs.size := F.ns.lt
  have hne : ∀ q ∈ ((h.objs.size + 1, W.listOf #[] 0) :: (L, fo) :: news), q.1 ≠ h.objs.size := by
    intro q hq
    rcases List.mem_cons.mp hq with rfl | hq
    · exact Nat.succ_ne_self _
    rcases List.mem_cons.mp hq with rfl | hq
    · exact Nat.ne_of_lt hLI
    · exact Nat.ne_of_lt (hlt q hq)
  have hneD : ∀ q ∈ ((L, fo) :: news), q.1 ≠ h.objs.size + 1 := by
    intro q hq
    rcases List.mem_cons.mp hq with rfl | hq
    · exact Nat.ne_of_lt (Nat.lt_succ_of_lt hLI)
    · exact Nat.ne_of_lt (Nat.lt_succ_of_lt (hlt q hq))
  have loop : codeAny (M₁ w) A (.compLoop (.ListComp elt [⟨.Name x px, iter, [test], 0⟩] scope pos) 0 (.ref h.objs.size) (.ref (h.objs.size + 1)) (compEnv scope C env))
      (fun r s' => ∃ m, s'.heap.Ns C m ∧ ∀ h', Heap.SameBut C s'.heap h' → match r with
        | .ok _ => Q (.ref (h.objs.size + 1)) { s' with heap := h' }
        | .error x => wpAny (M₁ w) A (PySem.passOn "comprehension.variables-let-go" x (compEnv scope C env)) Q E { s' with heap := h' }) ⟨h₃, g, d, tk, os⟩ := by
    refine codeAny_compLoop_tests (fun k s' => ∃ (h' : Heap) (tk' : Nat) (m' : Str → Option Value) (ys : List Value) (c' i : Nat), s' = ⟨h', g, d, tk', os⟩ ∧ St i h' ∧ Fr B C h' m' ∧ News B C h' ((h.objs.size + 1, W.listOf ys.toArray c') :: (L, fo) :: news) ∧ StrsTxt ys (((y.take i).filter p).map f) ∧ i ≤ y.length ∧ k = y.length + 1 - i) ?_ (y.length + 1)
      ⟨h₃, tk, _, [], 0, 0, rfl, hst₃, FC, NC, ⟨rfl, fun i w hw => by simp at hw⟩, Nat.zero_le _, rfl⟩
    rintro k s' ⟨h', tk', m', ys, c', i, rfl, hst', F', N', hys, hi, rfl⟩
    have hne' : ∀ q ∈ ((h.objs.size + 1, W.listOf ys.toArray c') :: (L, fo) :: news), q.1 ≠ h.objs.size := by
      intro q hq
      rcases List.mem_cons.mp hq with rfl | hq
      · exact Nat.succ_ne_self _
      · exact hne q (.tail _ hq)
    have hsz : (txt y).cps.size = y.length := txt_len y
    by_cases hiy : i < y.length
    · refine (Wk A hh).item i _ _ _ (by rw [hsz]; exact hiy) hst' fun v h₁ tk₁ hP hst₁ hk₁ => ?_
      obtain ⟨c, tc, hc, rfl⟩ := hP
      have hyc : y[i]? = some c := by simpa [txt] using hc
      dsimp only
      have F₄ : Fr B C h₁ m' := ⟨F'.ns.at' fun o e => hk₁ _ o (fun z => absurd (List.mem_singleton.mp z) (Nat.ne_of_gt hIC)) e, fun b o e => hk₁ b o (fun z => by rw [List.mem_singleton.mp z, hBI] at e; cases e) (F'.keep b o e), F'.above⟩
      have N₄ : News B C h₁ ((h.objs.size + 1, W.listOf ys.toArray c') :: (L, fo) :: news) := fun q hq => ⟨hk₁ _ _ (fun z => hne' q hq (List.mem_singleton.mp z)) (N' q hq).1, (N' q hq).2⟩
      obtain ⟨io, hio₁⟩ := hio _ _ hst₁
      refine wpAny_assign_Name (wpAny_storeName_local (env := compEnv scope C env) hx F₄.ns (fun h₅ hn₅ hs₅ => ?_) (by simp [compEnv, hkind]))
      have F₅ := F₄.set hn₅ hs₅
      have N₅ : News B C h₅ ((h.objs.size, io) :: (h.objs.size + 1, W.listOf ys.toArray c') :: (L, fo) :: news) := by
        intro q hq
        rcases List.mem_cons.mp hq with rfl | hq
        · exact ⟨(hs₅.2 _ (Nat.ne_of_lt hIC)).trans hio₁, Nat.ne_of_lt hIC, hBI⟩
        · exact N₄.set hs₅ q hq
      have hst₅ : St (i + 1) h₅ := (Wk A hh).frame _ _ _ hst₁ fun b hb o e => (hs₅.2 _ (by rw [List.mem_singleton.mp hb]; exact Nat.ne_of_lt hIC)).trans e
      simp only [List.forIn_cons, List.forIn_nil, if_true]
      have frameI : ∀ h₉, h₉.get? h.objs.size = some io → St (i + 1) h₉ := fun h₉ e9 => (Wk A hh).frame _ _ _ hst₅ fun b hb o e => by
        rw [List.mem_singleton.mp hb] at e ⊢
        rw [(N₅ _ (.head _)).1] at e
        cases e; exact e9
      refine wpAny_bind (wpAny_bind (htest C h₅ _ _ _ c tc i _ _ hyc F₅ (by simp; rfl) N₅ fun h₆ tk₆ F₆ N₆ => wpAny_pure ?_))
      refine wpAny_pure ?_
      cases hp : p c with
      | true =>
        rw [if_pos rfl]
        refine helt C h₆ _ _ _ c tc i _ _ hyc hp F₆ (by simp; rfl) N₆ fun h₇ tk₇ t₇ F₇ N₇ => ?_
        have hlen : ys.toArray.size ≤ sizeLine := by
          have e1 := hys.1
          have e2 := List.length_filter_le p (y.take i)
          have e3 : 500 ≤ sizeLine := by decide
          have e4 := List.length_take_le i y
          simp only [List.length_map] at e1
          simp only [List.size_toArray]; omega
        refine append_K (D := h.objs.size + 1) F₇ N₇ (.tail (Nat.ne_of_lt (Nat.lt_succ_self _)) (.head hneD)) (fun h₈ F₈ N₈ => ?_) hlen
        refine ⟨y.length + 1 - (i + 1), by omega, h₈, tk₇, _, ys ++ [.str (txt (f c)) t₇], c' + 1, i + 1, rfl, frameI h₈ (N₈ _ (.head _)).1, F₈, fun q hq => ?_, ?_, hiy, rfl⟩
        · refine N₈ q (.tail _ ?_)
          rw [List.push_toArray]; exact hq
        · rw [take_step hyc, List.filter_append, show List.filter p [c] = [c] by simp [hp], List.map_append]
          exact hys.push
      | false =>
        rw [if_neg Bool.false_ne_true]
        refine ⟨y.length + 1 - (i + 1), by omega, h₆, tk₆, _, ys, c', i + 1, rfl, frameI h₆ (N₆ _ (.head _)).1, F₆, fun q hq => N₆ q (.tail _ hq), ?_, hiy, rfl⟩
        rw [take_step hyc, List.filter_append, show List.filter p [c] = [] by simp [hp], List.append_nil]
        exact hys
    · have hin : i = y.length := by omega
      subst hin
      refine (Wk A hh).done _ _ _ (by rw [hsz]; exact hst') fun h₁ tk₁ hk₁ => ?_
      have F₄ : Fr B C h₁ m' := ⟨F'.ns.at' fun o e => hk₁ _ o (fun z => absurd (List.mem_singleton.mp z) (Nat.ne_of_gt hIC)) e, fun b o e => hk₁ b o (fun z => by rw [List.mem_singleton.mp z, hBI] at e; cases e) (F'.keep b o e), F'.above⟩
      have N₄ : News B C h₁ ((h.objs.size + 1, W.listOf ys.toArray c') :: (L, fo) :: news) := fun q hq => ⟨hk₁ _ _ (fun z => hne' q hq (List.mem_singleton.mp z)) (N' q hq).1, (N' q hq).2⟩
      refine ⟨m', F₄.ns, fun h₆ hs₆ => ?_⟩
      dsimp only
      have N₆ : News B C h₆ ((h.objs.size + 1, W.listOf ys.toArray c') :: (L, fo) :: news) := N₄.set hs₆
      rw [List.take_of_length_le (Nat.le_refl _)] at hys
      have F₆ : Fr B L h₆ m := by
        obtain ⟨o', es, ep, ho', r⟩ := F.ns
        obtain rfl : o' = fo := Option.some.inj (ho'.symm.trans hfo)
        refine ⟨⟨o', es, ep, (N₆ _ (.tail _ (.head _))).1, r⟩, fun b o e => ?_, F.above⟩
        exact hs₆.extBut b o (Nat.ne_of_lt (Nat.lt_of_lt_of_le (Heap.lt_size e) hBC)) (F₄.keep b o e)
      refine hQ h₆ _ _ ys c' hys (fun q hq => Nat.lt_succ_of_lt (hlt q hq)) (Nat.lt_succ_of_lt hLI) F₆ (fun q hq => ?_)
      rcases List.mem_cons.mp hq with rfl | hq
      · have z := N₆ _ (.head _); exact ⟨z.1, Nat.ne_of_gt (Nat.lt_succ_of_lt hLI), z.2.2⟩
      · have z := N₆ _ (.tail _ (.tail _ hq)); exact ⟨z.1, (N q hq).2.1, z.2.2⟩
  exact codeAny_compStart_list loop ((Wk A hh).self 0 _ _ _ hst₃ loop)
end Mine
set_option maxRecDepth 100000
set_option maxHeartbeats 1000000
namespace Mine
open PySem PySem.W PySem.Calls PyProof.Rows
/-- an entry of table B.3 without its tokens -/
inductive Bare1 : List DictEntry → List (Int × Str) → Prop
  | nil : Bare1 [] []
  | cons {es : List DictEntry} {l : List (Int × Str)} {h : Int} {x : Int × Str} {t t' : Tok} (b : Bare1 es l) : Bare1 (⟨h, .int x.1 t, .str x.2 t'⟩ :: es) (x :: l)
theorem Bare1.append {es es' : List DictEntry} {l l' : List (Int × Str)} (a : Bare1 es l) (b : Bare1 es' l') : Bare1 (es ++ es') (l ++ l') := by
  induction a with
  | nil => exact b
  | cons _ ih => exact .cons ih
theorem bare_ents : ∀ (r : List (Int × Str)) (t : Nat), Bare1 (ents r t) r
  | [], _ => .nil
  | _ :: r, t => .cons (bare_ents r (t + 3))
theorem bare_ents2 : ∀ (r : List (Int × Str)) (t : Nat), Bare1 (ents2 r t) r
  | [], _ => .nil
  | _ :: r, t => .cons (bare_ents2 r (t + 2))
theorem bare_walk : ∀ (r : List (Int × Str)) (k : Wk) (f : List (Int × Str)), Bare1 k.es f → ∃ f', Bare1 (walkE r k).es f' ∧ f' ++ (walkE r k).rc = f ++ (k.rc ++ r)
  | [], k, f, h => ⟨f, h, by unfold walkE; rw [List.append_nil]⟩
  | x :: r, k, f, h => by
    unfold walkE
    cases Nat.beq (k.rc ++ [x]).length 17 with
    | true =>
      obtain ⟨f', a, e⟩ := bare_walk r ⟨[], k.es ++ ents (k.rc ++ [x]) k.t, k.N ++ [dictOf (ents (k.rc ++ [x]) k.t) 17], k.t + 51⟩ (f ++ (k.rc ++ [x])) (h.append (bare_ents _ _))
      exact ⟨f', a, e.trans (by simp only [List.append_assoc, List.nil_append, List.singleton_append])⟩
    | false =>
      obtain ⟨f', a, e⟩ := bare_walk r ⟨k.rc ++ [x], k.es, k.N, k.t⟩ f h
      exact ⟨f', a, e.trans (by simp only [List.append_assoc, List.singleton_append])⟩
theorem bare_b3 : Bare1 b3es tbl := by
  obtain ⟨f', a, e⟩ := bare_walk tblR ⟨[], ents tblF 263, [], 314⟩ tblF (bare_ents _ _)
  have h : Bare1 b3es (f' ++ wk.rc) := a.append (bare_ents2 wk.rc wk.t)
  rw [show f' ++ wk.rc = tbl from e.trans (List.take_append_drop 17 tbl)] at h
  exact h
noncomputable def b3At : List (Int × Str) → Nat → Option Str
  | [], _ => none
  | (.ofNat i, s) :: r, k => match Nat.beq i k with | true => some s | false => b3At r k
  | (.negSucc _, _) :: r, k => b3At r k
theorem bare_find {es : List DictEntry} {l : List (Int × Str)} (b : Bare1 es l) (k : Nat) : match b3At l k with
    | some s => ∃ t, findBy Value.isInt es.toArray (k : Int) = some (.str s t)
    | none => findBy Value.isInt es.toArray (k : Int) = none := by
  simp only [findBy, List.find?_toArray]
  induction b with
  | nil => rfl
  | @cons es l h x t t' b ih =>
    obtain ⟨i, s⟩ := x
    cases i with
    | negSucc n =>
      have e : Value.isInt (k : Int) (.int (Int.negSucc n) t) = false := by
        show (Int.negSucc n == (k : Int)) = false
        exact beq_eq_false_iff_ne.mpr (fun e => by cases e)
      rw [List.find?_cons_of_neg (by rw [e]; exact Bool.false_ne_true)]
      exact ih
    | ofNat n =>
      show match (match Nat.beq n k with | true => some s | false => b3At l k) with | some s => _ | none => _
      cases hb : Nat.beq n k with
      | true =>
        have e : Value.isInt (k : Int) (.int (Int.ofNat n) t) = true := by
          show (Int.ofNat n == (k : Int)) = true
          rw [Nat.eq_of_beq_eq_true hb]; exact beq_self_eq_true _
        exact ⟨t', by rw [List.find?_cons_of_pos (p := fun e : DictEntry => Value.isInt (k : Int) e.key) (a := ⟨h, .int (Int.ofNat n) t, .str s t'⟩) e]; rfl⟩
      | false =>
        have e : Value.isInt (k : Int) (.int (Int.ofNat n) t) = false := by
          show (Int.ofNat n == (k : Int)) = false
          exact beq_eq_false_iff_ne.mpr (fun e => Nat.ne_of_beq_eq_false hb (Int.ofNat.inj e))
        rw [List.find?_cons_of_neg (by rw [e]; exact Bool.false_ne_true)]
        exact ih
noncomputable def foldQ (k : Nat) : Option Str := match b3At tbl k with | some s => some s | none => if PySem.Builtin.Str.tooLong (Txt.lower (Str.mk #[k])).length = false then some (Txt.lower (Str.mk #[k])) else none
theorem fold_eq (k : Nat) : foldB3 k = foldQ k := by
  have f := bare_find bare_b3 k
  unfold foldB3 b3val foldQ
  cases h : b3At tbl k with
  | some s => rw [h] at f; obtain ⟨t, e⟩ := f; rw [e]
  | none => rw [h] at f; rw [f]
end Mine
set_option maxRecDepth 100000
set_option maxHeartbeats 1000000
namespace Mine
open PySem PySem.W PySem.Calls PyProof.Rows
/-- the words: f, fi, and each further one the two ahead of it laid end to end -/
noncomputable def wd : Nat → List Nat | 0 => [102] | 1 => [102, 105] | k + 2 => wd (k + 1) ++ wd k
noncomputable def sig (c : Nat) : List Nat := if c = 102 then [102, 105] else [102]
theorem wd_letters : ∀ k, ∀ c ∈ wd k, c = 102 ∨ c = 105
  | 0, c, h => by simp [wd] at h; omega
  | 1, c, h => by simp [wd] at h; omega
  | k + 2, c, h => by
    rcases List.mem_append.mp h with h | h
    · exact wd_letters (k + 1) c h
    · exact wd_letters k c h
theorem wd_sig : ∀ k, ((wd k).map sig).flatten = wd (k + 1)
  | 0 => rfl
  | 1 => rfl
  | k + 2 => by
    show ((wd (k + 1) ++ wd k).map sig).flatten = wd (k + 2) ++ wd (k + 1)
    rw [List.map_append, List.flatten_append, wd_sig (k + 1), wd_sig k]
noncomputable def tyN (c : Nat) (n : Nat) : List Nat := (typedS (txt [c]) (n : Int)).cps.toList
theorem txt_toList (s : Str) : txt s.cps.toList = s := by cases s; simp [txt]
theorem tyN_txt (c n : Nat) : typedS (txt [c]) (n : Int) = txt (tyN c n) := (txt_toList _).symm
noncomputable def tyW : List Nat → Nat → List Nat | [], _ => [] | c :: r, n => tyN c n ++ tyW r (n + 7)
theorem tyW_snoc : ∀ (l : List Nat) (c n : Nat), tyW (l ++ [c]) n = tyW l n ++ tyN c (n + 7 * l.length)
  | [], c, n => by simp [tyW]
  | a :: r, c, n => by
    show tyN a n ++ tyW (r ++ [c]) (n + 7) = _
    rw [tyW_snoc r c (n + 7), List.length_cons, show n + 7 + 7 * r.length = n + 7 * (r.length + 1) by omega]
    simp [tyW]
noncomputable def fB (k : Nat) : List Nat := match foldB3 k with | some s => s.cps.toList | none => []
theorem code_in (n : Int) (hn : 0 ≤ n) : inB1 (codeF n) = true := by
  have h2 : 0 ≤ n.fdiv 12 := Int.fdiv_nonneg hn (by decide)
  have h0 := Int.fmod_nonneg (a := n.fdiv 12) (b := 27) h2 (by decide)
  have h1 := Int.fmod_lt_of_pos (n.fdiv 12) (show (0 : Int) < 27 by decide)
  unfold codeF
  generalize (n.fdiv 12).fmod 27 = r at *
  have h : ∀ k : Fin 27, inB1 (if ((k : Nat) : Int) < 11 then ([173, 847, 6150, 6155, 6156, 6157, 8203, 8204, 8205, 8288, 65279] : List Int).getD ((k : Nat) : Int).toNat 0 else 65013 + ((k : Nat) : Int)) = true := by decide +kernel
  have := h ⟨r.toNat, by omega⟩
  rw [show (((⟨r.toNat, by omega⟩ : Fin 27) : Nat) : Int) = r by simp; omega] at this
  exact this
theorem start_in (n : Int) (hn : 0 ≤ n) : (startF n + 102).toNat ∈ ([102, 70, 119813, 119865, 119917, 120021, 120177, 120229, 120281, 120333, 120385, 120437] : List Nat) ∧ (startF n + 105).toNat = (startF n + 102).toNat + 3 := by
  have h0 := Int.fmod_nonneg (a := n) (b := 12) hn (by decide)
  have h1 := Int.fmod_lt_of_pos n (show (0 : Int) < 12 by decide)
  have hr := startF_range hn
  refine ⟨?_, by omega⟩
  unfold startF
  clear hr
  generalize n.fmod 12 = r at *
  obtain ⟨k, rfl⟩ := Int.eq_ofNat_of_zero_le h0
  have hall : ∀ k : Fin 12, ((if ((k : Nat) : Int) < 2 then -32 * ((k : Nat) : Int) else 119711 + 52 * ([0, 1, 2, 4, 7, 8, 9, 10, 11, 12] : List Int).getD (((k : Nat) : Int) - 2).toNat 0) + 102).toNat ∈ ([102, 70, 119813, 119865, 119917, 120021, 120177, 120229, 120281, 120333, 120385, 120437] : List Nat) := by decide +kernel
  exact hall ⟨k, Int.ofNat_lt.mp h1⟩
theorem fold_letters : ([102, 70, 119813, 119865, 119917, 120021, 120177, 120229, 120281, 120333, 120385, 120437] : List Nat).all (fun k => !inB1 (k : Nat) && !inB1 ((k + 3 : Nat) : Int) && (foldQ k == some (txt [102])) && (foldQ (k + 3) == some (txt [105]))) = true := by decide +kernel
theorem fold_fi : (!inB1 ((64257 : Nat) : Int) && (foldQ 64257 == some (txt [102, 105]))) = true := by decide +kernel
theorem letter_facts {k : Nat} (hk : k ∈ ([102, 70, 119813, 119865, 119917, 120021, 120177, 120229, 120281, 120333, 120385, 120437] : List Nat)) : inB1 (k : Nat) = false ∧ inB1 ((k + 3 : Nat) : Int) = false ∧ foldB3 k = some (txt [102]) ∧ foldB3 (k + 3) = some (txt [105]) := by
  have h := List.all_eq_true.mp fold_letters k hk
  simp only [Bool.and_eq_true, Bool.not_eq_true', beq_iff_eq, ← fold_eq] at h
  exact ⟨h.1.1.1, h.1.1.2, h.1.2, h.2⟩
theorem fi_facts : inB1 ((64257 : Nat) : Int) = false ∧ foldB3 64257 = some (txt [102, 105]) := by
  have h := fold_fi
  simp only [Bool.and_eq_true, Bool.not_eq_true', beq_iff_eq, ← fold_eq] at h
  exact h
theorem fB_of {k : Nat} {l : List Nat} (h : foldB3 k = some (txt l)) : fB k = l := by
  unfold fB; rw [h]; simp [txt]
/-- what is typed for one letter: its signs, folded, are the letter's word -/
theorem tyN_fold (c n : Nat) (hc : c = 102 ∨ c = 105) : (tyN c n).length ≤ 3 ∧ (((tyN c n).filter (fun k => !inB1 (k : Nat))).map fB).flatten = sig c ∧ ∀ k ∈ tyN c n, inB1 (k : Nat) = false → foldB3 k = some (txt (fB k)) := by
  have hn : (0 : Int) ≤ n := by omega
  have hcode := code_in n hn
  have hcr := codeF_range hn
  have hcode' : inB1 (((codeF n).toNat : Nat) : Int) = true := by rw [show (((codeF n).toNat : Nat) : Int) = codeF n by omega]; exact hcode
  obtain ⟨hs, hs3⟩ := start_in n hn
  obtain ⟨l1, l2, l3, l4⟩ := letter_facts hs
  obtain ⟨f1, f2⟩ := fi_facts
  generalize hq : (codeF n).toNat = q at *
  generalize hp : (startF n + 102).toNat = p at *
  have b1 := fB_of l3
  have b2 := fB_of l4
  have b3 := fB_of f2
  rcases hc with rfl | rfl
  · by_cases h5 : 1 < (n : Int).fmod 5
    · have e : tyN 102 n = [64257, q] := by
        unfold tyN typedS
        rw [if_pos ⟨by decide, h5⟩]
        show (Str.mk (#[Int.toNat 64257] ++ #[(codeF n).toNat])).cps.toList = _
        rw [hq]; rfl
      have ef : List.filter (fun k : Nat => !inB1 k) [64257, q] = [64257] := by
        rw [List.filter_cons_of_pos (by rw [f1]; rfl), List.filter_cons_of_neg (by rw [hcode']; decide)]; rfl
      rw [e, ef]
      refine ⟨by simp, ?_, ?_⟩
      · simp [b3, sig]
      · intro k hk hb
        rcases List.mem_cons.mp hk with rfl | hk
        · rw [b3]; exact f2
        · rw [List.mem_singleton.mp hk, hcode'] at hb; cases hb
    · have e : tyN 102 n = [p, q, p + 3] := by
        unfold tyN typedS
        rw [if_neg (fun z => h5 z.2), if_pos (by decide)]
        show (Str.mk (#[(startF n + 102).toNat] ++ #[(codeF n).toNat] ++ #[(startF n + 105).toNat])).cps.toList = _
        rw [hq, hs3, hp]; rfl
      have ef : List.filter (fun k : Nat => !inB1 k) [p, q, p + 3] = [p, p + 3] := by
        rw [List.filter_cons_of_pos (by rw [l1]; rfl), List.filter_cons_of_neg (by rw [hcode']; decide), List.filter_cons_of_pos (by rw [l2]; rfl)]; rfl
      rw [e, ef]
      refine ⟨by simp, ?_, ?_⟩
      · simp [b1, b2, sig]
      · intro k hk hb
        rcases List.mem_cons.mp hk with rfl | hk
        · rw [b1]; exact l3
        rcases List.mem_cons.mp hk with rfl | hk
        · rw [hcode'] at hb; cases hb
        · rw [List.mem_singleton.mp hk, b2]; exact l4
  · have e : tyN 105 n = [p, q] := by
      unfold tyN typedS
      rw [if_neg (fun z => absurd z.1 (by decide)), if_neg (by decide)]
      show (Str.mk (#[(startF n + 102).toNat] ++ #[(codeF n).toNat] ++ #[])).cps.toList = _
      rw [hq, hp]; rfl
    have ef : List.filter (fun k : Nat => !inB1 k) [p, q] = [p] := by
      rw [List.filter_cons_of_pos (by rw [l1]; rfl), List.filter_cons_of_neg (by rw [hcode']; decide)]; rfl
    rw [e, ef]
    refine ⟨by simp, ?_, ?_⟩
    · simp [b1, sig]
    · intro k hk hb
      rcases List.mem_cons.mp hk with rfl | hk
      · rw [b1]; exact l3
      · rw [List.mem_singleton.mp hk, hcode'] at hb; cases hb
/-- what is typed for a word -/
theorem tyW_fold : ∀ (l : List Nat) (n : Nat), (∀ c ∈ l, c = 102 ∨ c = 105) → (tyW l n).length ≤ 3 * l.length ∧ (((tyW l n).filter (fun k => !inB1 (k : Nat))).map fB).flatten = (l.map sig).flatten ∧ ∀ k ∈ tyW l n, inB1 (k : Nat) = false → foldB3 k = some (txt (fB k))
  | [], _, _ => ⟨by simp [tyW], by simp [tyW], fun k hk => by simp [tyW] at hk⟩
  | c :: r, n, h => by
    obtain ⟨a1, a2, a3⟩ := tyN_fold c n (h c (.head _))
    obtain ⟨b1, b2, b3⟩ := tyW_fold r (n + 7) fun c hc => h c (.tail _ hc)
    unfold tyW
    refine ⟨?_, ?_, ?_⟩
    · rw [List.length_append, List.length_cons]; omega
    · rw [List.filter_append, List.map_append, List.flatten_append, a2, b2]; rfl
    · intro k hk hb
      rcases List.mem_append.mp hk with hk | hk
      · exact a3 k hk hb
      · exact b3 k hk hb
end Mine
set_option maxRecDepth 100000
set_option maxHeartbeats 2000000
namespace Mine
open PySem PySem.W PySem.Calls PyProof.Rows
theorem filledLaw3 (P : Params) : PySem.Challenge.rw_wr0051_01 = PySem.Challenge.rw_wr0051_01 ∧ KK P = KK P := by k_fill; exact ⟨rfl, rfl⟩
noncomputable abbrev wds (K : Nat) : List (List Nat) := (List.range (K + 1)).map wd
theorem wds_len (K : Nat) : (wds K).length = K + 1 := by simp [wds]
theorem wds_get {K i : Nat} (h : i ≤ K) : (wds K)[i]? = some (wd i) := by
  unfold wds
  rw [List.getElem?_map, List.getElem?_range (by omega)]; rfl
theorem wd_len_le (k : Nat) (h : k ≤ 7) : (wd k).length ≤ 34 := by
  have : ∀ k : Fin 8, (wd k).length ≤ 34 := by decide +kernel
  exact this ⟨k, by omega⟩
theorem wd_len_pos (k : Nat) : 1 ≤ (wd k).length := by
  match k with
  | 0 => decide
  | 1 => decide
  | k + 2 => have := wd_len_pos (k + 1); show 1 ≤ (wd (k + 1) ++ wd k).length; rw [List.length_append]; omega
theorem strs_values : ∀ {vs : List Value} {ws : List (List Nat)}, StrsTxt vs ws → ∃ l : List (Str × Tok), strValues l = vs ∧ l.map (·.1) = ws.map txt
  | [], [], _ => ⟨[], rfl, rfl⟩
  | [], _ :: _, h => by have := h.1; simp at this
  | _ :: _, [], h => by have := h.1; simp at this
  | v :: vs, a :: ws, h => by
    obtain ⟨t, e⟩ := h.2 0 a rfl
    obtain rfl : v = .str (txt a) t := by simpa using e
    obtain ⟨l, e1, e2⟩ := strs_values (vs := vs) (ws := ws) ⟨by have := h.1; simpa using this, fun i w hi => h.2 (i + 1) w hi⟩
    exact ⟨(txt a, t) :: l, by rw [← e1]; rfl, by rw [List.map_cons, e2]; rfl⟩
noncomputable def wNames : List Str := [Str.ofString "typed", Str.ofString "letter", Str.ofString "n"]
theorem ph3 {w : World} {mean : ExcName → Option Value} {mg mb : Str → Option Value} {B : Heap} (T : Top₁ mean mg mb B) (X : (KK w.params).In B)
    {A : Around} {L Wd : Addr} {h : Heap} {g : Array GenState} {d : Drawn} {tk total n : Nat} {os : OsState} {base : List (Addr × Obj)} {m : Str → Option Value} {t1 t5 t6 : Tok} {Q : Flow → Shared → Prop}
    (F : Fr B L h m) (N : News B L h ((Wd, W.listOf #[.str (txt [102]) t6] 0) :: base)) (hne : ∀ p ∈ base, p.1 ≠ Wd) (hm1 : m (Str.ofString "words") = some (.ref Wd)) (hm2 : m (Str.ofString "total") = some (.int total t1)) (hm3 : m (Str.ofString "n") = some (.int n t5)) (ht : 2 ≤ total) (ht2 : total ≤ 21) (hd : A.depth + 20 < recursionLimit) (hh : A.handled = none)
    (hQ : ∀ h' tk' us c m' K, 1 ≤ K → K ≤ 6 → total ≤ (wd K).length → (wd (K - 1)).length < total → Agree wNames m' m → StrsTxt us (wds K) → Fr B L h' m' → News B L h' ((Wd, W.listOf us.toArray c) :: base) → wpAny (M₁ w) A (execs (lawS 6) (envL L)) Q (fun _ _ => False) ⟨h', g, d, tk', os⟩) :
    wpAny (M₁ w) A (execs (lawS 5) (envL L)) Q (fun _ _ => False) ⟨h, g, d, tk, os⟩ := by
  obtain ⟨ah, ad, af, ag, au⟩ := A
  obtain rfl : ah = none := hh
  have hdd : ad + 20 < recursionLimit := hd
  rw [show lawS 5 = nthS (defBody (cell 20)) 5 :: lawS 6 from rfl]
  generalize hst : nthS (defBody (cell 20)) 5 = st
  refine execs_cut (R := fun s' => ∃ (h' : Heap) (tk' : Nat) (us : List Value) (c : Nat) (m' : Str → Option Value) (K : Nat), s' = ⟨h', g, d, tk', os⟩ ∧ K ≤ 6 ∧ total ≤ (wd K).length ∧ (K = 0 ∨ (wd (K - 1)).length < total) ∧ Agree wNames m' m ∧ StrsTxt us (wds K) ∧ Fr B L h' m' ∧ News B L h' ((Wd, W.listOf us.toArray c) :: base)) ?_ ?_
  · intro Q' hQ'
    subst hst
    show wpAny _ _ (exec (Stmt.While _ _ [] _) _) _ _ _
    refine While_inv (fun j m₁ news₁ => ∃ (K : Nat) (us : List Value) (c n : Nat) (tn : Tok), j = 6 - K ∧ K ≤ 6 ∧ (K = 0 ∨ (wd (K - 1)).length < total) ∧ Agree wNames m₁ m ∧ m₁ (Str.ofString "n") = some (.int n tn) ∧ StrsTxt us (wds K) ∧ news₁ = (Wd, W.listOf us.toArray c) :: base) F N ⟨0, [.str (txt [102]) t6], 0, n, t5, rfl, Nat.zero_le _, .inl rfl, Agree.refl _ _, hm3, ⟨rfl, fun i w hw => ?_⟩, rfl⟩ ?_
    · cases i with
      | zero => cases hw; exact ⟨t6, rfl⟩
      | succ i => cases hw
    clear F N
    rintro j m₁ news₁ h₁ tk₁ F₁ N₁ ⟨K, us, c, n, tn, rfl, hK, hK1, hag, hn, hus, rfl⟩
    have hw1 : m₁ (Str.ofString "words") = some (.ref Wd) := (hag _ (by decide)).trans hm1
    have hw2 : m₁ (Str.ofString "total") = some (.int total t1) := (hag _ (by decide)).trans hm2
    obtain ⟨tl, hlast0⟩ := hus.2 K (wd K) (wds_get (Nat.le_refl _))
    have hul : us.length = K + 1 := by rw [hus.1, wds_len]
    have hlast : us[((-1 : Int) + us.length).toNat]? = some (.str (txt (wd K)) tl) := by rw [show ((-1 : Int) + us.length).toNat = K by omega]; exact hlast0
    have hwl : ((txt (wd K)).length : Int) = (wd K).length := by rw [txt_len]
    have hwl2 : (txt (wd K)).length ≤ 34 := by rw [txt_len]; exact wd_len_le K (by omega)
    have hwl3 := wd_len_le K (by omega)
    repeat' (first | ((with_reducible show wpAny _ _ (eval (.Name _ _) _) _ _ _); refine' ld (by assumption) ?hv ?_; (case hv => first | exact rfl | assumption)) | ((with_reducible show wpAny _ _ (loadName _ _) _ _ _); refine' ldn (by assumption) ?hv ?_; (case hv => first | exact rfl | assumption)) | ((with_reducible show wpAny _ _ (subscriptTail _ _ (Value.ref Wd) _) _ _ _); refine item_neg (us := us) (by assumption) (.head _) hlast (by decide) (by omega) (by decide) ?_) | ((fail_if_success (with_reducible show wpAny _ _ (execs (Stmt.Assign _ _ _ :: _) _) _ _ _)); k_unfold; (try dsimp only)) | ((fail_if_success (with_reducible show wpAny _ _ (execs (Stmt.Assign _ _ _ :: _) _) _ _ _)); walk1; (try dsimp only)) | (dsimp only; (fail_if_success (with_reducible show wpAny _ _ (execs (Stmt.Assign _ _ _ :: _) _) _ _ _)); walk1))
    · refine execs_cut (R := fun s' => ∃ (h' : Heap) (tk' : Nat) (tt : Tok), s' = ⟨h', g, d, tk', os⟩ ∧ Fr B L h' (put m₁ (Str.ofString "typed") (.str (txt []) tt)) ∧ News B L h' ((Wd, W.listOf us.toArray c) :: base)) ?_ ?_
      · intro Q₂ hQ₂
        repeat' (first | ((with_reducible show wpAny _ _ (eval (.Name _ _) _) _ _ _); refine' ld (by assumption) ?hv ?_; (case hv => first | exact rfl | assumption)) | ((with_reducible show wpAny _ _ (loadName _ _) _ _ _); refine' ldn (by assumption) ?hv ?_; (case hv => first | exact rfl | assumption)) | (k_unfold; (try dsimp only)) | (walk1; (try dsimp only)) | (dsimp only; walk1))
        exact hQ₂ _ ⟨_, _, _, rfl, by assumption, by assumption⟩
      clear F₁ N₁
      rintro s' ⟨h₂, tk₂, tt, rfl, F₂, N₂⟩
      have hag2 : Agree wNames (put m₁ (Str.ofString "typed") (.str (txt []) tt)) m := hag.put (by decide)
      have hty0 : put m₁ (Str.ofString "typed") (.str (txt []) tt) (Str.ofString "typed") = some (.str (txt []) tt) := rfl
      have hn2 : put m₁ (Str.ofString "typed") (.str (txt []) tt) (Str.ofString "n") = some (.int n tn) := hn
      clear hw1 hw2 hag hn
      generalize put m₁ (Str.ofString "typed") (.str (txt []) tt) = m₂ at *
      refine execs_cut (R := fun s' => ∃ (h' : Heap) (tk' : Nat) (m' : Str → Option Value) (tt tn : Tok), s' = ⟨h', g, d, tk', os⟩ ∧ Agree wNames m' m ∧ m' (Str.ofString "typed") = some (.str (txt (tyW (wd K) n)) tt) ∧ m' (Str.ofString "n") = some (.int (n + 7 * (wd K).length : Nat) tn) ∧ Fr B L h' m' ∧ News B L h' ((Wd, W.listOf us.toArray c) :: base)) ?_ ?_
      · intro Q₂ hQ₂
        have hw1 : m₂ (Str.ofString "words") = some (.ref Wd) := (hag2 _ (by decide)).trans hm1
        refine for_gen B (by rfl) (by rfl) ?_
        repeat' (first | ((with_reducible show wpAny _ _ (eval (.Name _ _) _) _ _ _); refine' ld (by assumption) ?hv ?_; (case hv => first | exact rfl | assumption)) | ((with_reducible show wpAny _ _ (loadName _ _) _ _ _); refine' ldn (by assumption) ?hv ?_; (case hv => first | exact rfl | assumption)) | ((with_reducible show wpAny _ _ (subscriptTail _ _ (Value.ref Wd) _) _ _ _); refine item_neg (us := us) (by assumption) (.head _) hlast (by decide) (by omega) (by decide) ?_) | ((fail_if_success (with_reducible show wpAny _ _ (pyIter _) _ _ _)); k_unfold; (try dsimp only)) | ((fail_if_success (with_reducible show wpAny _ _ (pyIter _) _ _ _)); walk1; (try dsimp only)) | (dsimp only; (fail_if_success (with_reducible show wpAny _ _ (pyIter _) _ _ _)); walk1))
        refine iter_str (y := txt (wd K)) (fun i m' n' => ∃ tt tn, Agree wNames m' m ∧ m' (Str.ofString "typed") = some (.str (txt (tyW ((wd K).take i) n)) tt) ∧ m' (Str.ofString "n") = some (.int (n + 7 * i : Nat) tn) ∧ n' = (Wd, W.listOf us.toArray c) :: base) F₂ N₂ rfl ?_ ?_ ?_
        · exact ⟨tt, tn, hag2, hty0, by simpa using hn2, rfl⟩
        · clear F₂ N₂
          rintro I io i k t1 m₃ news₃ h₃ tk₃ Q₃ hk ⟨tt, tn, hag3, hty3, hn3, rfl⟩ hI hIn F₃ N₃ hnext hret
          have hk' : (wd K)[i]? = some k := by simpa [txt] using hk
          have hi : i < (wd K).length := (List.getElem?_eq_some_iff.mp hk').1
          have hltr := wd_letters K k (List.mem_of_getElem? hk')
          have hty : typedS (Str.mk #[k]) ((n + 7 * i : Nat) : Int) = txt (tyN k (n + 7 * i)) := tyN_txt k (n + 7 * i)
          have hl1 : (txt (tyN k (n + 7 * i))).length ≤ 3 := by rw [txt_len]; exact (tyN_fold k _ hltr).1
          have hl2 : (txt (tyW ((wd K).take i) n)).length ≤ 200 := by
            rw [txt_len]
            have := (tyW_fold ((wd K).take i) n (fun c hc => wd_letters K c (List.mem_of_mem_take hc))).1
            rw [List.length_take] at this; omega
          replace F₃ : Fr B L h₃ (put m₃ (Str.ofString "letter") (.str (Str.mk #[k]) t1)) := F₃
          replace N₃ : News B L h₃ ((I, io) :: (Wd, W.listOf us.toArray c) :: base) := N₃
          dsimp only at *
          repeat' (first | ((with_reducible show wpAny _ _ (eval (.Name _ _) _) _ _ _); refine' ld (by assumption) ?hv ?_; (case hv => first | exact rfl | assumption)) | ((with_reducible show wpAny _ _ (loadName _ _) _ _ _); refine' ldn (by assumption) ?hv ?_; (case hv => first | exact rfl | assumption)) | ((with_reducible show wpAny _ _ (call (Value.ref 197) _) _ _ _); refine spec_typed T X (by assumption) (by assumption) (by show ad < _; omega) (by omega) ?_; intro h₆ tk₆ t₆ F₆ N₆; rw [hty]) | (k_unfold; (try dsimp only)) | (walk1; (try dsimp only)) | (dsimp only; walk1))
          rename_i F₄ N₄
          rw [txt_app, show tyW ((wd K).take i) n ++ tyN k (n + 7 * i) = tyW ((wd K).take (i + 1)) n by
            rw [take_step hk', tyW_snoc, List.length_take, Nat.min_eq_left (by omega)]] at F₄
          rw [show (((n + 7 * i : Nat) : Int) + 7) = ((n + 7 * (i + 1) : Nat) : Int) by omega] at F₄
          exact hnext _ _ _ _ F₄ N₄ hI ⟨_, _, ((hag3.put (x := Str.ofString "letter") (by decide)).put (x := Str.ofString "typed") (by decide)).put (x := Str.ofString "n") (by decide), rfl, rfl, rfl⟩
        · rintro h' tk' m' n' F' N' ⟨tt, tn, a1, a2, a3, rfl⟩
          have e1 : (txt (wd K)).cps.size = (wd K).length := txt_len (wd K)
          rw [e1] at a2 a3
          rw [List.take_of_length_le (Nat.le_refl _)] at a2
          exact hQ₂ _ ⟨h', tk', m', tt, tn, rfl, a1, a2, a3, F', N'⟩
      clear F₂ N₂ hag2 hty0 hn2
      rintro s' ⟨h₃, tk₃, m₃, tt, tn, rfl, hag, hty, hn, F₁, N₁⟩
      obtain ⟨tyl, tyf, tyb⟩ := tyW_fold (wd K) n (wd_letters K)
      have hw1 : m₃ (Str.ofString "words") = some (.ref Wd) := (hag _ (by decide)).trans hm1
      refine execs_cut (R := fun s' => ∃ (h' : Heap) (tk' : Nat) (tj : Tok), s' = ⟨h', g, d, tk', os⟩ ∧ Fr B L h' m₃ ∧ News B L h' ((Wd, W.listOf (us ++ [Value.str (txt (wd (K + 1))) tj]).toArray (c + 1)) :: base)) ?_ ?_
      · intro Q₂ hQ₂
        repeat' (first | ((with_reducible show wpAny _ _ (eval (.Name _ _) _) _ _ _); refine' ld (by assumption) ?hv ?_; (case hv => first | exact rfl | assumption)) | ((with_reducible show wpAny _ _ (loadName _ _) _ _ _); refine' ldn (by assumption) ?hv ?_; (case hv => first | exact rfl | assumption)) | ((with_reducible show wpAny _ _ (subscriptTail _ _ (Value.ref Wd) _) _ _ _); refine item_neg (us := us) (by assumption) (.head _) hlast (by decide) (by omega) (by decide) ?_) | ((fail_if_success (with_reducible show wpAny _ _ (eval (.ListComp _ _ _ _) _) _ _ _)); k_unfold; (try dsimp only)) | ((fail_if_success (with_reducible show wpAny _ _ (eval (.ListComp _ _ _ _) _) _ _ _)); walk1; (try dsimp only)) | (dsimp only; (fail_if_success (with_reducible show wpAny _ _ (eval (.ListComp _ _ _ _) _) _ _ _)); walk1))
        have hy500 : (tyW (wd K) n).length ≤ 500 := by omega
        refine comp_str (x := Str.ofString "sign") (y := tyW (wd K) n) (ty := tt) (p := fun k => !inB1 (k : Nat)) (f := fB) T F₁ N₁ rfl hy500 ?hiter ?htest ?helt ?hq (by decide) (by decide) rfl (by decide) (by rfl)
        case hiter =>
          intro Q E hq
          exact ld F₁ hty hq
        case htest =>
          intro C h' tk' mC nw k tc i Qt E hyc FC hmC NC hcont
          have G : ∀ sc : Scope, sc.kind = .function → GenFrame (compEnv sc C (envL L)) C := fun sc hk => ⟨hk, rfl, rfl, rfl⟩
          repeat' (first | ((with_reducible show wpAny _ _ (eval (.Name (Str.ofString "sign") _) _) _ _ _); refine gn_local (G _ rfl) FC (by rfl) hmC (by decide) ?_) | ((with_reducible show wpAny _ _ (eval (.Name (Str.ofString "in_table_b1") _) _) _ _ _); refine gn_global (v := .ref 39) (G _ rfl) T X FC (by rfl) (by kernel_rfl) (by decide) ?_) | ((with_reducible show wpAny _ _ (call (Value.ref 39) _) _ _ _); refine spec_b1 (k := k) T X FC NC (by show ad < _; omega) ?_; intro h₇ tk₇ FC NC) | (k_unfold; (try dsimp only)) | (walk1; (try dsimp only)) | (dsimp only; walk1))
          exact hcont _ _ FC NC
        case helt =>
          intro C h' tk' mC nw k tc i Qt E hyc hp FC hmC NC hcont
          have hfold := tyb k (List.mem_of_getElem? hyc) (by simpa using hp)
          have G : ∀ sc : Scope, sc.kind = .function → GenFrame (compEnv sc C (envL L)) C := fun sc hk => ⟨hk, rfl, rfl, rfl⟩
          repeat' (first | ((with_reducible show wpAny _ _ (eval (.Name (Str.ofString "sign") _) _) _ _ _); refine gn_local (G _ rfl) FC (by rfl) hmC (by decide) ?_) | ((with_reducible show wpAny _ _ (eval (.Name (Str.ofString "map_table_b3") _) _) _ _ _); refine gn_global (v := .ref 85) (G _ rfl) T X FC (by rfl) (by kernel_rfl) (by decide) ?_) | ((with_reducible show wpAny _ _ (call (Value.ref 85) _) _ _ _); refine spec_b3 (k := k) T X FC NC (by show ad < _; omega) hfold ?_; intro h₇ tk₇ t₇ FC NC) | (k_unfold; (try dsimp only)) | (walk1; (try dsimp only)) | (dsimp only; walk1))
          exact hcont _ _ _ FC NC
        case hq =>
          intro h₄ tk₄ D ys cD hys hD hLD F₄ N₄
          repeat' (first | ((with_reducible show wpAny _ _ (eval (.Name _ _) _) _ _ _); refine' ld (by assumption) ?hv ?_; (case hv => first | exact rfl | assumption)) | ((with_reducible show wpAny _ _ (loadName _ _) _ _ _); refine' ldn (by assumption) ?hv ?_; (case hv => first | exact rfl | assumption)) | ((with_reducible show wpAny _ _ (subscriptTail _ _ (Value.ref Wd) _) _ _ _); refine item_neg (us := us) (by assumption) (.head _) hlast (by decide) (by omega) (by decide) ?_) | ((fail_if_success (with_reducible show wpAny _ _ (call (Value.builtin "str.join") _) _ _ _)); k_unfold; (try dsimp only)) | ((fail_if_success (with_reducible show wpAny _ _ (call (Value.builtin "str.join") _) _ _ _)); walk1; (try dsimp only)) | (dsimp only; (fail_if_success (with_reducible show wpAny _ _ (call (Value.builtin "str.join") _) _ _ _)); walk1))
          obtain ⟨l, hl1, hl2⟩ := strs_values hys
          have hflat : (List.map fB (List.filter (fun k : Nat => !inB1 k) (tyW (wd K) n))).flatten = wd (K + 1) := by rw [tyf]; exact wd_sig K
          have hfl : (List.map fB (List.filter (fun k : Nat => !inB1 k) (tyW (wd K) n))).length ≤ 500 := by
            rw [List.length_map]
            exact Nat.le_trans (List.length_filter_le _ _) hy500
          have hwl4 := wd_len_le (K + 1) (by omega)
          have hsum : ((List.map fB (List.filter (fun k : Nat => !inB1 k) (tyW (wd K) n))).map List.length).sum = (wd (K + 1)).length := by
            rw [← hflat, List.length_flatten]
          refine SC.join (D := D) (l := l) (texts := (List.map fB (List.filter (fun k : Nat => !inB1 k) (tyW (wd K) n))).map txt) (by rw [hl1]; exact ⟨_, (N₄ _ (.head _)).1, rfl, _, rfl⟩) hl2 (join_ok (by rw [hsum]; omega)) fun t' k => ?_
          rw [join_txt, hflat]
          have hlw : us.toArray.size ≤ sizeLine := by
            have z100 : 100 ≤ sizeLine := by decide
            simp only [List.size_toArray]; omega
          repeat' (first | ((with_reducible show wpAny _ _ (eval (.Name _ _) _) _ _ _); refine' ld (by assumption) ?hv ?_; (case hv => first | exact rfl | assumption)) | ((with_reducible show wpAny _ _ (loadName _ _) _ _ _); refine' ldn (by assumption) ?hv ?_; (case hv => first | exact rfl | assumption)) | ((with_reducible show wpAny _ _ (call (Value.builtin "list.append") _) _ _ _); refine append_K (D := Wd) F₄ N₄ (.tail (Nat.ne_of_gt (hD _ (.head _))) (.head hne)) ?_ hlw; intro h₅ F₅ N₅) | (k_unfold; (try dsimp only)) | (walk1; (try dsimp only)) | (dsimp only; walk1))
          exact hQ₂ _ ⟨h₅, _, t', rfl, F₅, fun p hp => N₅ p (.tail _ (by rw [List.push_toArray]; exact hp))⟩
      clear F₁ N₁
      rintro s' ⟨h₄, tk₄, tj, rfl, F₁, N₁⟩
      have hus' : StrsTxt (us ++ [Value.str (txt (wd (K + 1))) tj]) (wds (K + 1)) := by
        have e : wds (K + 1) = wds K ++ [wd (K + 1)] := by
          unfold wds; rw [List.range_succ, List.map_append]; rfl
        rw [e]; exact hus.push
      have hul2 : (us ++ [Value.str (txt (wd (K + 1))) tj]).length = K + 2 := by simp [hul]
      generalize us ++ [Value.str (txt (wd (K + 1))) tj] = us₂ at *
      have hw1 : m₃ (Str.ofString "words") = some (.ref Wd) := (hag _ (by decide)).trans hm1
      obtain ⟨ta, ha0⟩ := hus'.2 (K + 1) (wd (K + 1)) (wds_get (Nat.le_refl _))
      obtain ⟨tb, hb0⟩ := hus'.2 K (wd K) (wds_get (by omega))
      have ha : us₂[((-1 : Int) + us₂.length).toNat]? = some (.str (txt (wd (K + 1))) ta) := by rw [show ((-1 : Int) + us₂.length).toNat = K + 1 by omega]; exact ha0
      have hb : us₂[((-2 : Int) + us₂.length).toNat]? = some (.str (txt (wd K)) tb) := by rw [show ((-2 : Int) + us₂.length).toNat = K by omega]; exact hb0
      have hlt' : (wd K).length < total := by omega
      have fin : ∀ (h : Heap) (tk : Nat), K ≤ 5 → Fr B L h m₃ → News B L h ((Wd, W.listOf us₂.toArray (c + 1)) :: base) → WhileStep B L ⟨h₁, g, d, tk₁, os⟩ (fun j m₁ news₁ => ∃ (K : Nat) (us : List Value) (c n : Nat) (tn : Tok), j = 6 - K ∧ K ≤ 6 ∧ (K = 0 ∨ (wd (K - 1)).length < total) ∧ Agree wNames m₁ m ∧ m₁ (Str.ofString "n") = some (.int n tn) ∧ StrsTxt us (wds K) ∧ news₁ = (Wd, W.listOf us.toArray c) :: base) (6 - K) .next ⟨h, g, d, tk, os⟩ := by
        intro h tk hK5 F N
        exact WhileStep.intro (s := ⟨h₁, g, d, tk₁, os⟩) F N (n' := 6 - (K + 1)) (by omega) ⟨K + 1, us₂, c + 1, _, tn, rfl, by omega, .inr hlt', hag, hn, hus', rfl⟩
      have hK5 : K ≤ 5 := by
        rcases Nat.lt_or_ge K 6 with h6 | h6
        · omega
        · have : K = 6 := by omega
          subst this
          have : (wd 6).length = 21 := by decide +kernel
          omega
      have hsz : us₂.toArray.size = K + 2 := by simp only [List.size_toArray]; omega
      have hszl : us₂.toArray.size ≤ 100 := by omega
      rcases Nat.eq_zero_or_pos K with rfl | hKp
      · repeat' (first | ((with_reducible show wpAny _ _ (eval (.Name _ _) _) _ _ _); refine' ld (by assumption) ?hv ?_; (case hv => first | exact rfl | assumption)) | ((with_reducible show wpAny _ _ (loadName _ _) _ _ _); refine' ldn (by assumption) ?hv ?_; (case hv => first | exact rfl | assumption)) | ((with_reducible show wpAny _ _ (subscriptTail _ _ (Value.ref Wd) _) _ _ _); first | refine item_neg (us := us₂) (by assumption) (.head _) ha (by decide) (by omega) (by decide) ?_) | (k_unfold; (try dsimp only)) | (walk1; (try dsimp only)) | (dsimp only; walk1))
        all_goals first | exact fin _ _ hK5 (by assumption) (by assumption) | omega
      · obtain ⟨k, rfl⟩ : ∃ k, K = k + 1 := ⟨K - 1, by omega⟩
        obtain ⟨td, hd0⟩ := hus'.2 k (wd k) (wds_get (by omega))
        have hc : us₂[((-3 : Int) + us₂.length).toNat]? = some (.str (txt (wd k)) td) := by rw [show ((-3 : Int) + us₂.length).toNat = k by omega]; exact hd0
        have hlk : (txt (wd k)).length ≤ 34 := by rw [txt_len]; exact wd_len_le k (by omega)
        have hlk1 : (txt (wd (k + 1))).length ≤ 34 := by rw [txt_len]; exact wd_len_le (k + 1) (by omega)
        repeat' (first | ((with_reducible show wpAny _ _ (eval (.Name _ _) _) _ _ _); refine' ld (by assumption) ?hv ?_; (case hv => first | exact rfl | assumption)) | ((with_reducible show wpAny _ _ (loadName _ _) _ _ _); refine' ldn (by assumption) ?hv ?_; (case hv => first | exact rfl | assumption)) | ((with_reducible show wpAny _ _ (subscriptTail _ _ (Value.ref Wd) _) _ _ _); first | refine item_neg (us := us₂) (by assumption) (.head _) ha (by decide) (by omega) (by decide) ?_ | refine item_neg (us := us₂) (by assumption) (.head _) hb (by decide) (by omega) (by decide) ?_ | refine item_neg (us := us₂) (by assumption) (.head _) hc (by decide) (by omega) (by decide) ?_) | (k_unfold; (try dsimp only)) | (walk1; (try dsimp only)) | (dsimp only; walk1))
        · omega
        · rename_i hne2
          have e : (txt (wd (k + 1 + 1)) != txt (wd (k + 1)) ++ txt (wd k)) = false := by
            rw [txt_app]; exact bne_self_eq_false' _
          rw [e] at hne2; cases hne2
        · exact fin _ _ hK5 (by assumption) (by assumption)
    · exact hQ' _ ⟨h₁, _, us, c, m₁, K, rfl, hK, by omega, hK1, hag, hus, F₁, N₁⟩
  rintro s' ⟨h', tk', us, c, m', K, rfl, hK, hK1, hK2, hag, hus, F', N'⟩
  refine hQ h' tk' us c m' K ?_ hK hK1 ?_ hag hus F' N'
  · rcases Nat.eq_zero_or_pos K with rfl | hp
    · exact absurd hK1 (by show ¬ total ≤ 1; omega)
    · exact hp
  · rcases hK2 with rfl | h2
    · exact absurd hK1 (by show ¬ total ≤ 1; omega)
    · exact h2
end Mine
set_option maxRecDepth 100000
set_option maxHeartbeats 2000000
namespace Mine
open PySem PySem.W PySem.Calls PyProof.Rows
theorem filledLaw4 (P : Params) : PySem.Challenge.rw_wr0051_01 = PySem.Challenge.rw_wr0051_01 ∧ KK P = KK P := by k_fill; exact ⟨rfl, rfl⟩
noncomputable def pNames : List Str := [Str.ofString "pile", Str.ofString "rest", Str.ofString "pieces"]
theorem ph4 {w : World} {mean : ExcName → Option Value} {mg mb : Str → Option Value} {B : Heap} (T : Top₁ mean mg mb B) (X : (KK w.params).In B)
    {A : Around} {L Wd : Addr} {h : Heap} {g : Array GenState} {d : Drawn} {tk total first K c : Nat} {os : OsState} {base : List (Addr × Obj)} {m : Str → Option Value} {t1 t2 : Tok} {us : List Value} {Q : Flow → Shared → Prop}
    (F : Fr B L h m) (N : News B L h ((Wd, W.listOf us.toArray c) :: base)) (hm1 : m (Str.ofString "words") = some (.ref Wd)) (hm2 : m (Str.ofString "total") = some (.int total t1)) (hm3 : m (Str.ofString "first") = some (.int first t2)) (ht : 2 ≤ total) (ht2 : total ≤ 21) (hK : K ≤ 6) (hus : StrsTxt us (wds K)) (htK : total ≤ (wd K).length) (hd : A.depth + 20 < recursionLimit) (hh : A.handled = none)
    (hQ : ∀ h' tk' x dx od cp Pc m' tr, Own od (.int first t2) → Agree pNames m' m → m' (Str.ofString "pile") = some (.ref x) → m' (Str.ofString "rest") = some (.str (txt ((wd K).take total)) tr) → m' (Str.ofString "pieces") = some (.ref Pc) →
      (∀ p ∈ (Pc, W.listOf #[] 0) :: (dx, od) :: (Wd, W.listOf us.toArray c) :: base, p.1 ≠ x) → (∀ p ∈ (dx, od) :: (Wd, W.listOf us.toArray c) :: base, p.1 ≠ Pc) → Fr B L h' m' → News B L h' ((x, pileO dx #[] cp) :: (Pc, W.listOf #[] 0) :: (dx, od) :: (Wd, W.listOf us.toArray c) :: base) → wpAny (M₁ w) A (execs (lawS 7) (envL L)) Q (fun _ _ => False) ⟨h', g, d, tk', os⟩) :
    wpAny (M₁ w) A (execs (lawS 6) (envL L)) Q (fun _ _ => False) ⟨h, g, d, tk, os⟩ := by
  obtain ⟨ah, ad, af, ag, au⟩ := A
  obtain rfl : ah = none := hh
  have hdd : ad + 20 < recursionLimit := hd
  have hWmem : (Wd, W.listOf us.toArray c) ∈ (Wd, W.listOf us.toArray c) :: base := .head _
  obtain ⟨tl, hlast0⟩ := hus.2 K (wd K) (wds_get (Nat.le_refl _))
  have hul : us.length = K + 1 := by rw [hus.1, wds_len]
  have hlast : us[((-1 : Int) + us.length).toNat]? = some (.str (txt (wd K)) tl) := by rw [show ((-1 : Int) + us.length).toNat = K by omega]; exact hlast0
  have hwl2 : (txt (wd K)).length ≤ 34 := by rw [txt_len]; exact wd_len_le K (by omega)
  rw [show lawS 6 = nthS (defBody (cell 20)) 6 :: lawS 7 from rfl]
  generalize hst : nthS (defBody (cell 20)) 6 = st
  refine execs_cut (R := fun s' => ∃ h' tk' x dx od cp Pc m' tr, s' = ⟨h', g, d, tk', os⟩ ∧ Own od (.int first t2) ∧ Agree pNames m' m ∧ m' (Str.ofString "pile") = some (.ref x) ∧ m' (Str.ofString "rest") = some (.str (txt ((wd K).take total)) tr) ∧ m' (Str.ofString "pieces") = some (.ref Pc) ∧
      (∀ p ∈ (Pc, W.listOf #[] 0) :: (dx, od) :: (Wd, W.listOf us.toArray c) :: base, p.1 ≠ x) ∧ (∀ p ∈ (dx, od) :: (Wd, W.listOf us.toArray c) :: base, p.1 ≠ Pc) ∧ Fr B L h' m' ∧ News B L h' ((x, pileO dx #[] cp) :: (Pc, W.listOf #[] 0) :: (dx, od) :: (Wd, W.listOf us.toArray c) :: base)) ?_ ?_
  · intro Q' hQ'
    subst hst
    show wpAny _ _ (exec (Stmt.Assign [.Tuple _ _ _] (.Tuple _ _ _) _) _) _ _ _
    repeat' (first | ((with_reducible show wpAny _ _ (eval (.Name _ _) _) _ _ _); refine' ld (by assumption) ?hv ?_; (case hv => first | exact rfl | assumption)) | ((with_reducible show wpAny _ _ (loadName _ _) _ _ _); refine' ldn (by assumption) ?hv ?_; (case hv => first | exact rfl | assumption)) | ((with_reducible show wpAny _ _ (call (Value.ref 172) _) _ _ _); refine spec_make T X F N (by show ad + 1 < _; omega) rfl ?_; intro h₁ tk₁ x dx od cp O hdx hLdx hlt F₁ N₁) | ((fail_if_success (with_reducible show wpAny _ _ (subscriptTail _ _ _ _) _ _ _)); k_unfold; (try dsimp only)) | ((fail_if_success (with_reducible show wpAny _ _ (subscriptTail _ _ _ _) _ _ _)); walk1; (try dsimp only)) | (dsimp only; (fail_if_success (with_reducible show wpAny _ _ (subscriptTail _ _ _ _) _ _ _)); walk1))
    have hWmem' : (Wd, W.listOf us.toArray c) ∈ (x, pileO dx #[] cp) :: (dx, od) :: (Wd, W.listOf us.toArray c) :: base := .tail _ (.tail _ (.head _))
    clear hWmem
    have hWmem := hWmem'
    clear hWmem' F N
    repeat' (first | ((with_reducible show wpAny _ _ (eval (.Name _ _) _) _ _ _); refine' ld (by assumption) ?hv ?_; (case hv => first | exact rfl | assumption)) | ((with_reducible show wpAny _ _ (loadName _ _) _ _ _); refine' ldn (by assumption) ?hv ?_; (case hv => first | exact rfl | assumption)) | ((with_reducible show wpAny _ _ (subscriptTail _ _ (Value.ref Wd) _) _ _ _); refine item_neg (us := us) (by assumption) hWmem hlast (by decide) (by omega) (by decide) ?_) | (k_unfold; (try dsimp only)) | (walk1; (try dsimp only)) | (dsimp only; walk1))
    rename_i h6 tr k hsl Pc h5 lPc D h4 lD h3 h2 h1 hn F' N'
    rw [slice_txt_to (l := wd K) (j := (total : Int)) (by omega) (by omega), Int.toNat_natCast] at F'
    have hxb : ∀ p ∈ (Wd, W.listOf us.toArray c) :: base, p.1 ≠ x := fun p hp => Nat.ne_of_lt (Nat.lt_trans (hlt p hp) hdx)
    have hPb : ∀ p ∈ (dx, od) :: (Wd, W.listOf us.toArray c) :: base, p.1 ≠ Pc := AllLt.ne (show AllLt Pc ((dx, od) :: (Wd, W.listOf us.toArray c) :: base) from lPc.2)
    refine hQ' _ ⟨hn, _, x, dx, od, cp, Pc, _, tr, rfl, O, (((Agree.refl pNames m).put (x := Str.ofString "pieces") (by decide)).put (x := Str.ofString "rest") (by decide)).put (x := Str.ofString "pile") (by decide), rfl, rfl, rfl, ?_, hPb, F', fun p hp => N' p ?_⟩
    · refine all_cons ?_ (all_cons ?_ (fun p hp => ?_))
      · exact Nat.ne_of_gt lPc.1
      · exact Nat.ne_of_lt hdx
      · exact hxb p hp
    · rcases hp with _ | ⟨_, _ | ⟨_, hp⟩⟩
      · exact .tail _ (.tail _ (.head _))
      · exact .tail _ (.head _)
      · exact .tail _ (.tail _ (.tail _ hp))
  rintro s' ⟨h', tk', x, dx, od, cp, Pc, m', tr, rfl, O, a1, a2, a3, a4, a5, a6, F', N'⟩
  exact hQ h' tk' x dx od cp Pc m' tr O a1 a2 a3 a4 a5 a6 F' N'
end Mine
set_option maxRecDepth 100000
set_option maxHeartbeats 2000000
namespace Mine
open PySem PySem.W PySem.Calls PyProof.Rows
theorem filledLaw5 (P : Params) : PySem.Challenge.rw_wr0051_01 = PySem.Challenge.rw_wr0051_01 ∧ KK P = KK P := by k_fill; exact ⟨rfl, rfl⟩
noncomputable def cut (n : Nat) : List (List Nat) := ((layR (wds 6).reverse ((wd 6).take n) []).map (·.1)).getD []
theorem cut_front {K n : Nat} (h : K ≤ 6) (hn : n ≤ (wd K).length) : layR (wds K).reverse ((wd K).take n) [] = some (cut n, []) := by
  have z : ∀ K : Fin 7, ∀ n : Fin 22, n.1 ≤ (wd K).length → layR (wds K).reverse ((wd K).take n) [] = some (cut n, []) := by decide +kernel
  have l : ∀ K : Fin 7, (wd K).length ≤ 21 := by decide +kernel
  have l1 : (wd K).length ≤ 21 := l ⟨K, by omega⟩
  exact z ⟨K, by omega⟩ ⟨n, by omega⟩ hn
theorem wds_ok (K : Nat) (h : K ≤ 6) : ∀ a ∈ wds K, 46 ∉ a ∧ 1 ≤ a.length ∧ a.length ≤ 50 := by
  have : ∀ K : Fin 7, ∀ a ∈ wds K, 46 ∉ a ∧ 1 ≤ a.length ∧ a.length ≤ 50 := by decide +kernel
  exact this ⟨K, by omega⟩
theorem ph5 {w : World} {mean : ExcName → Option Value} {mg mb : Str → Option Value} {B : Heap} (T : Top₁ mean mg mb B) (X : (KK w.params).In B)
    {A : Around} {L Wd x dx Pc : Addr} {h : Heap} {g : Array GenState} {d : Drawn} {tk total K c cp : Nat} {od : Obj} {fv : Value} {os : OsState} {base : List (Addr × Obj)} {m : Str → Option Value} {tr : Tok} {us : List Value} {Q : Flow → Shared → Prop}
    (F : Fr B L h m) (N : News B L h ((x, pileO dx #[] cp) :: (Pc, W.listOf #[] 0) :: (dx, od) :: (Wd, W.listOf us.toArray c) :: base)) (hx : ∀ p ∈ (Pc, W.listOf #[] 0) :: (dx, od) :: (Wd, W.listOf us.toArray c) :: base, p.1 ≠ x) (hm1 : m (Str.ofString "words") = some (.ref Wd)) (hm2 : m (Str.ofString "pile") = some (.ref x)) (hm3 : m (Str.ofString "rest") = some (.str (txt ((wd K).take total)) tr)) (ht2 : total ≤ 21) (hK : K ≤ 6) (hus : StrsTxt us (wds K)) (O : Own od fv) (htK : total ≤ (wd K).length) (hd : A.depth + 20 < recursionLimit) (hh : A.handled = none)
    (hQ : ∀ h' tk' items c' ts, Tup items ts (cut total) → (∀ p ∈ ts ++ (Pc, W.listOf #[] 0) :: (dx, od) :: (Wd, W.listOf us.toArray c) :: base, p.1 ≠ x) → Fr B L h' m → News B L h' ((x, pileO dx items c') :: (ts ++ (Pc, W.listOf #[] 0) :: (dx, od) :: (Wd, W.listOf us.toArray c) :: base)) → wpAny (M₁ w) A (execs (lawS 8) (envL L)) Q (fun _ _ => False) ⟨h', g, d, tk', os⟩) :
    wpAny (M₁ w) A (execs (lawS 7) (envL L)) Q (fun _ _ => False) ⟨h, g, d, tk, os⟩ := by
  obtain ⟨ah, ad, af, ag, au⟩ := A
  obtain rfl : ah = none := hh
  have hdd : ad + 20 < recursionLimit := hd
  rw [show lawS 7 = nthS (defBody (cell 20)) 7 :: lawS 8 from rfl]
  generalize hst : nthS (defBody (cell 20)) 7 = st
  refine execs_cut (R := fun s' => ∃ h' tk' items c' ts, s' = ⟨h', g, d, tk', os⟩ ∧ Tup items ts (cut total) ∧ (∀ p ∈ ts ++ (Pc, W.listOf #[] 0) :: (dx, od) :: (Wd, W.listOf us.toArray c) :: base, p.1 ≠ x) ∧ Fr B L h' m ∧ News B L h' ((x, pileO dx items c') :: (ts ++ (Pc, W.listOf #[] 0) :: (dx, od) :: (Wd, W.listOf us.toArray c) :: base))) ?_ ?_
  · intro Q' hQ'
    subst hst
    show wpAny _ _ (exec (Stmt.If _ _ _ _) _) _ _ _
    repeat' (first | ((with_reducible show wpAny _ _ (eval (.Name _ _) _) _ _ _); refine' ld (by assumption) ?hv ?_; (case hv => first | exact rfl | assumption)) | ((with_reducible show wpAny _ _ (loadName _ _) _ _ _); refine' ldn (by assumption) ?hv ?_; (case hv => first | exact rfl | assumption)) | ((with_reducible show wpAny _ _ (call (Value.ref 211) _) _ _ _); refine spec_lay (ts := []) (ps0 := []) T X F (by assumption) hx (.tail _ (.head _)) (.tail _ (.tail _ (.head _))) hus O ⟨rfl, fun j w h => (nomatch h)⟩ (by show ad + 10 < _; omega) rfl (cut_front (K := K) (n := total) hK htK) (wds_ok K hK) (by rw [wds_len]; omega) (by rw [List.length_take]; omega) (Nat.zero_le _) ?_; intro h₁ tk₁ items' c' ts' htup hx' hts F₁ N₁) | (k_unfold; (try dsimp only)) | (walk1; (try dsimp only)) | (dsimp only; walk1))
    exact hQ' _ ⟨_, _, _, _, _, rfl, htup, hx', F₁, N₁⟩
  rintro s' ⟨h', tk', items, c', ts, rfl, a1, a2, F', N'⟩
  exact hQ h' tk' items c' ts a1 a2 F' N'
end Mine
set_option maxRecDepth 100000
set_option maxHeartbeats 2000000
namespace Mine
open PySem PySem.W PySem.Calls PyProof.Rows
theorem filledLaw6 (P : Params) : PySem.Challenge.rw_wr0051_01 = PySem.Challenge.rw_wr0051_01 ∧ KK P = KK P := by k_fill; exact ⟨rfl, rfl⟩
/-- the front cut from its end by sizes -/
noncomputable def cg (W : List Nat) : List Int → Nat → List (List Nat) → Option (List (List Nat))
  | [], n, ps => if n = 0 then some ps else none
  | s :: l, n, ps => if 1 ≤ s ∧ s ≤ n then cg W l (n - s.toNat) ((W.take n).drop (n - s.toNat) :: ps) else none
theorem parts_small {n : Nat} (h : n ≤ 21) : (partsOf n).length ≤ 8 ∧ ∀ v ∈ partsOf n, 1 ≤ v ∧ v ≤ 21 := by
  have z : ∀ n : Fin 22, (partsOf n.1).length ≤ 8 ∧ ∀ v ∈ partsOf n.1, 1 ≤ v ∧ v ≤ 21 := by decide +kernel
  exact z ⟨n, by omega⟩
theorem cg_cut {K n : Nat} (hK : K ≤ 6) (hn : n ≤ (wd K).length) : cg (wd K) (partsOf n).reverse n [] = some (cut n) := by
  have z : ∀ K : Fin 7, ∀ n : Fin 22, n.1 ≤ (wd K).length → cg (wd K) (partsOf n.1).reverse n [] = some (cut n) := by decide +kernel
  have l : ∀ K : Fin 7, (wd K).length ≤ 21 := by decide +kernel
  have l1 : (wd K).length ≤ 21 := l ⟨K, by omega⟩
  exact z ⟨K, by omega⟩ ⟨n, by omega⟩ hn
theorem Tup.mono {items : Array Value} {ts ts' : List (Addr × Obj)} {ps : List (List Nat)} (h : Tup items ts ps) (hm : ∀ p ∈ ts, p ∈ ts') : Tup items ts' ps :=
  ⟨h.1, fun j w hj => let ⟨T, t1, t2, e, z⟩ := h.2 j w hj; ⟨T, t1, t2, e, hm _ z⟩⟩
theorem Tup.cons {items : List Value} {ts : List (Addr × Obj)} {ps : List (List Nat)} {wd : List Nat} {T : Addr} {t1 t2 : Tok} (h : Tup items.toArray ts ps) (hT : (T, pairO (Value.str (txt (wd.take 1)) t1) (Value.str (txt (wd.drop 1)) t2)) ∈ ts) : Tup (Value.ref T :: items).toArray ts (wd :: ps) := by
  obtain ⟨h1, h2⟩ := h
  refine ⟨by simpa using h1, fun j w hj => ?_⟩
  cases j with
  | zero => cases hj; exact ⟨T, t1, t2, by simp, hT⟩
  | succ j =>
    obtain ⟨T', t1', t2', e, hm⟩ := h2 j w hj
    exact ⟨T', t1', t2', by simpa using e, hm⟩
theorem cat_lists {prog : Program} {w : World} {A : Around} {E : Value → Shared → Prop} {s : Shared} {h₀ : Heap} {L : Addr} {m : Str → Option Value} {news : List (Addr × Obj)} {l b : Addr} {its its2 : Array Value} {Q : Value → Shared → Prop} (F : Fr h₀ L s.heap m) (N : News h₀ L s.heap news) (hl : s.heap.IsList l its) (hb : s.heap.IsList b its2) (hsz : its.size + its2.size ≤ sizeLine)
    (h : ∀ D h', (∀ p ∈ news, p.1 < D) → Fr h₀ L h' m → News h₀ L h' ((D, W.listOf (its.toList ++ its2.toList).toArray 0) :: news) → Q (.ref D) { s with heap := h' }) :
    wpAny (model prog w) A (binaryOp .Add (.ref l) (.ref b)) Q E s :=
  add_arrays F N hl hb (hsz := hsz) fun h' F' N' => h _ h' (fun p hp => Heap.lt_size (N p hp).1) F' N'
noncomputable def gNames : List Str := [Str.ofString "size", Str.ofString "pieces", Str.ofString "rest"]
theorem cut_facts {l : List Nat} {nn s : Nat} (hl : l.length = nn) (h1 : 1 ≤ s) (h2 : s ≤ nn) : Txt.item (txt l) (-(s : Int)) = txt ((l.drop (nn - s)).take 1) ∧
    Txt.slice (txt l) (some (((txt l).length : Int) - s + 1)) none = txt ((l.drop (nn - s)).drop 1) ∧ Txt.slice (txt l) none (some (-(s : Int))) = txt (l.take (nn - s)) := by
  obtain ⟨r, rfl⟩ := Nat.exists_eq_add_of_le h2
  obtain ⟨s', rfl⟩ := Nat.exists_eq_add_of_le' h1
  clear h2
  rw [Nat.add_sub_cancel_left, txt_len]
  have hr : r < l.length := by rw [hl]; exact Nat.lt_add_of_pos_left (Nat.succ_pos s')
  refine ⟨?_, ?_, ?_⟩
  · rw [List.drop_eq_getElem_cons hr, List.take_succ_cons, List.take_zero]
    refine item_txt_neg (by clear hr hl h1; omega) (by rw [hl]; clear hr hl h1; omega) ?_
    rw [show (-((s' + 1 : Nat) : Int) + l.length).toNat = r by rw [hl]; clear hr hl h1; omega]
    exact List.getElem?_eq_getElem _
  · rw [slice_txt_from (by rw [hl]; clear hr hl h1; omega) (by rw [hl]; clear hr hl h1; omega), List.drop_drop]
    rw [show ((l.length : Int) - ((s' + 1 : Nat) : Int) + 1).toNat = r + 1 by rw [hl]; clear hr hl h1; omega]
  · rw [slice_txt_to_neg (by clear hr hl h1; omega) (by rw [hl]; clear hr hl h1; omega)]
    rw [show (-((s' + 1 : Nat) : Int) + l.length).toNat = r by rw [hl]; clear hr hl h1; omega]
theorem ph6 {w : World} {mean : ExcName → Option Value} {mg mb : Str → Option Value} {B : Heap} (T : Top₁ mean mg mb B) (X : (KK w.params).In B)
    {A : Around} {L x Pc : Addr} {h : Heap} {g : Array GenState} {d : Drawn} {tk total K : Nat} {xo : Obj} {os : OsState} {base : List (Addr × Obj)} {m : Str → Option Value} {tr t1 : Tok} {Q : Flow → Shared → Prop}
    (F : Fr B L h m) (N : News B L h ((x, xo) :: base)) (hg : AllBare g) (hx : ∀ p ∈ base, p.1 ≠ x) (hPc : (Pc, W.listOf #[] 0) ∈ base) (hm2 : m (Str.ofString "total") = some (.int total t1)) (hm3 : m (Str.ofString "rest") = some (.str (txt ((wd K).take total)) tr)) (hm4 : m (Str.ofString "pieces") = some (.ref Pc)) (ht2 : total ≤ 21) (hK : K ≤ 6) (htK : total ≤ (wd K).length) (hd : A.depth + 20 < recursionLimit) (hh : A.handled = none)
    (hQ : ∀ h' g' tk' m' items Pc nw tr, AllBare g' → Agree gNames m' m → m' (Str.ofString "rest") = some (.str (txt []) tr) → m' (Str.ofString "pieces") = some (.ref Pc) → (Pc, W.listOf (List.toArray items) 0) ∈ nw → Tup items.toArray nw (cut total) → (∀ p ∈ nw, p.1 ≠ x) → (∀ p ∈ base, p ∈ nw) → Fr B L h' m' → News B L h' ((x, xo) :: nw) → wpAny (M₁ w) A (execs (lawS 9) (envL L)) Q (fun _ _ => False) ⟨h', g', d, tk', os⟩) :
    wpAny (M₁ w) A (execs (lawS 8) (envL L)) Q (fun _ _ => False) ⟨h, g, d, tk, os⟩ := by
  obtain ⟨ah, ad, af, ag, au⟩ := A
  obtain rfl : ah = none := hh
  have hdd : ad + 20 < recursionLimit := hd
  obtain ⟨hpl, hpv⟩ := parts_small ht2
  rw [show lawS 8 = nthS (defBody (cell 20)) 8 :: lawS 9 from rfl]
  generalize hst : nthS (defBody (cell 20)) 8 = st
  refine execs_cut (R := fun s' => ∃ h' g' tk' m' items Pc nw tr, s' = ⟨h', g', d, tk', os⟩ ∧ AllBare g' ∧ Agree gNames m' m ∧ m' (Str.ofString "rest") = some (.str (txt []) tr) ∧ m' (Str.ofString "pieces") = some (.ref Pc) ∧ (Pc, W.listOf (List.toArray items) 0) ∈ nw ∧ Tup items.toArray nw (cut total) ∧ (∀ p ∈ nw, p.1 ≠ x) ∧ (∀ p ∈ base, p ∈ nw) ∧ Fr B L h' m' ∧ News B L h' ((x, xo) :: nw)) ?_ ?_
  · intro Q' hQ'
    subst hst
    show wpAny _ _ (exec (Stmt.For (.Name _ _) _ _ [] _) _) _ _ _
    refine for_grp T X rfl (by show ad < _; omega) (by rfl) (by rfl) ?_
    repeat' (first | ((with_reducible show wpAny _ _ (eval (.Name _ _) _) _ _ _); refine' ld (by assumption) ?hv ?_; (case hv => first | exact rfl | assumption)) | ((with_reducible show wpAny _ _ (loadName _ _) _ _ _); refine' ldn (by assumption) ?hv ?_; (case hv => first | exact rfl | assumption)) | ((with_reducible show wpAny _ _ (call (Value.ref 204) _) _ _ _); refine spec_parts T X (by assumption) (by assumption) (by show ad < _; omega) rfl ⟨by omega, by omega⟩ ?_; intro h₁ tk₁ P us cP hus0 hP F₁ N₁) | ((with_reducible show wpAny _ _ (subscriptTail _ _ (Value.ref _) _) _ _ _); refine krv_lit (s := ⟨h₁, g, d, _, os⟩) F₁ N₁ ⟨_, (N₁ _ (.head _)).1, rfl, _, rfl⟩ (.int _ _) rfl ?_ (by with_unfolding_all rfl) (by intro _; with_unfolding_all rfl) (by have z5 := hus0.length; have z6 : 100 ≤ sizeLine := (by decide); simp only [List.size_toArray]; omega); intro R h₂ F₂ N₂ hR) | ((with_reducible show wpAny _ _ (binaryOp .Add (Value.ref _) (Value.ref _)) _ _ _); refine cat_lists (its := us.toArray.toList.reverse.toArray) (by assumption) (by assumption) ⟨_, (‹News _ _ _ _› _ (.tail _ (.head _))).1, rfl, _, rfl⟩ ⟨_, (‹News _ _ _ _› _ (.head _)).1, rfl, _, rfl⟩ (by have z5 := hus0.length; have z6 : 100 ≤ sizeLine := (by decide); simp only [List.size_toArray, List.length_reverse, List.length_cons, List.length_nil]; omega) ?_; intro D h₅ hD F₅ N₅) | ((with_reducible show wpAny _ _ (call (Value.ref 183) _) _ _ _); refine spec_group (n := (partsOf total).length) (A₁ := Around.in1 ⟨none, ad, af, ag, au⟩) T X F₅ N₅ (.head _) (by show ad < _; omega) ?_; intro h₆ tk₆ a C oc nm qn gs hC hLC hCa hBC hgb hGA F₆ N₆) | ((fail_if_success (with_reducible show wpAny _ _ (pyIter _) _ _ _)); k_unfold; (try dsimp only)) | ((fail_if_success (with_reducible show wpAny _ _ (pyIter _) _ _ _)); walk1; (try dsimp only)) | (dsimp only; (fail_if_success (with_reducible show wpAny _ _ (pyIter _) _ _ _)); walk1))
    refine wpAny_pyIter_gen (g := g.size) ⟨_, nm, qn, (N₆ _ (.head _)).1, rfl, rfl, rfl⟩ ?_
    have hxC : x < C := hC (x, xo) (by simp)
    have hbC : ∀ p ∈ base, p.1 < C := fun p hp => hC p (by simp [hp])
    have hrv : IntsAre us.reverse (partsOf total).reverse := hus0.reverse
    have hlr : us.reverse.length = (partsOf total).reverse.length := hrv.length
    have hlr2 : (partsOf total).reverse.length = (partsOf total).length := List.length_reverse
    have hit : ∀ i, i < (partsOf total).length → ∃ v t, (us.toArray.toList.reverse.toArray.toList ++ #[Value.int 127 (tk₁ + 1 + 1), Value.int 1 (tk₁ + 1 + 1 + 1)].toList).toArray[i]? = some (.int v t) ∧ (partsOf total).reverse[i]? = some v := by
      intro i hi
      have hi2 : i < us.reverse.length := by omega
      obtain ⟨nn, t, e1, e2⟩ := hrv.at i _ (List.getElem?_eq_getElem hi2)
      refine ⟨nn, t, ?_, e2⟩
      rw [← e1]
      simp only [List.getElem?_toArray]
      rw [List.getElem?_append_left (by simpa using hi2)]
      exact List.getElem?_eq_getElem hi2
    have hstop : (us.toArray.toList.reverse.toArray.toList ++ #[Value.int 127 (tk₁ + 1 + 1), Value.int 1 (tk₁ + 1 + 1 + 1)].toList).toArray[(partsOf total).length]? = some (.int 127 (tk₁ + 1 + 1)) := by
      simp only [List.getElem?_toArray]
      rw [List.getElem?_append_right (by simp at *; omega)]
      have : (partsOf total).length - us.toArray.toList.reverse.toArray.toList.length = 0 := by simp at *; omega
      rw [this]; rfl
    generalize (us.toArray.toList.reverse.toArray.toList ++ #[Value.int 127 (tk₁ + 1 + 1), Value.int 1 (tk₁ + 1 + 1 + 1)].toList).toArray = its at *
    have hxD : D ≠ x := Nat.ne_of_gt (hD (x, xo) (by simp))
    have hDC : D < C := hC _ (.head _)
    refine ⟨C, D, a, its, (partsOf total).length, g.size, 0, oc, gs, nm, qn, m, (a, genO g.size nm qn) :: (D, W.listOf its 0) :: (x, xo) :: base, fun i m' n' => ∃ items Pc ts nn ps t, n' = ts ++ (a, genO g.size nm qn) :: (D, W.listOf its 0) :: (x, xo) :: base ∧ (Pc, W.listOf (List.toArray items) 0) ∈ ts ++ base ∧ Tup items.toArray (ts ++ base) ps ∧ (∀ p ∈ ts, p.1 ≠ x) ∧ ps.length ≤ i ∧ m' (Str.ofString "rest") = some (.str (txt ((wd K).take nn)) t) ∧ m' (Str.ofString "pieces") = some (.ref Pc) ∧ nn ≤ (wd K).length ∧ cg (wd K) ((partsOf total).reverse.drop i) nn ps = some (cut total) ∧ Agree gNames m' m, rfl, ⟨fun i hi => ?_, ⟨_, hstop⟩⟩, hBC, ?_, hGA, F₆, ?_, ?_, ?_, ?_, ?_, ?_⟩
    · obtain ⟨v, t, e1, e2⟩ := hit i hi
      have hv := hpv v (List.mem_reverse.mp (List.mem_of_getElem? e2))
      exact ⟨v, t, e1, by omega, by omega⟩
    · show (g.push gs)[g.size]? = some gs
      simp
    · refine all_cons ?_ (all_cons ?_ (all_cons ?_ (fun p hp => ?_)))
      · exact N₆ _ (.tail _ (.head _))
      · exact N₆ _ (.head _)
      · exact N₆ _ (.tail _ (.tail _ (.head _)))
      · exact N₆ _ (.tail _ (.tail _ (.tail _ (.tail _ (.tail _ (.tail _ hp))))))
    · refine all_cons ?_ (all_cons ?_ (all_cons ?_ (fun p hp => ?_)))
      · exact Nat.ne_of_gt hCa
      · exact Nat.ne_of_lt hDC
      · exact Nat.ne_of_lt hxC
      · exact Nat.ne_of_lt (hbC p hp)
    · exact ⟨[], Pc, [], total, [], tr, rfl, hPc, ⟨rfl, fun j w h => (nomatch h)⟩, fun p hp => (nomatch hp), Nat.le_refl _, hm3, hm4, htK, cg_cut hK htK, Agree.refl _ _⟩
    · rintro i m' n' ⟨items, Pc, ts, nn, ps, t, rfl, _⟩
      exact ⟨List.mem_append.mpr (.inr (.head _)), List.mem_append.mpr (.inr (.tail _ (.head _)))⟩
    · clear hg hPc hm3 hm4 hGA F₆ N₆
      rintro i v m₁ nw₁ h₁ tk₁ g₁ I oc₁ oi₁ Q₁ hin hv ⟨items, Pc, ts, nn, ps, tr, rfl, hPm0, htup, hts, hpi, hr, hpc, hnn, hcg, hag⟩ hne F₁ N₁ hnext
      obtain ⟨v', tv, e1, e2⟩ := hit i hin
      obtain rfl : v = .int v' tv := Option.some.inj (hv.symm.trans e1)
      obtain ⟨hlt, e⟩ := List.getElem?_eq_some_iff.mp e2
      rw [List.drop_eq_getElem_cons hlt, e, cg] at hcg
      split at hcg
      case isFalse => cases hcg
      rename_i hv'
      obtain ⟨s, rfl⟩ : ∃ s : Nat, v' = s := ⟨v'.toNat, by omega⟩
      rw [Int.toNat_natCast] at hcg
      have hl : (txt ((wd K).take nn)).length = nn := by rw [txt_len, List.length_take]; omega
      have hwl := wd_len_le K (by omega)
      have hl1 : ((wd K).take nn).length = nn := by rw [List.length_take]; omega
      have hsz : items.toArray.size ≤ 8 := by rw [htup.1]; omega
      have z100 : 100 ≤ sizeLine := by decide
      replace F₁ : Fr B L h₁ (put m₁ (Str.ofString "size") (.int s tv)) := F₁
      replace N₁ : News B L h₁ ((C, oc₁) :: (I, oi₁) :: (ts ++ (a, genO g.size nm qn) :: (D, W.listOf its 0) :: (x, xo) :: base)) := N₁
      have hinc : ∀ p ∈ ts ++ base, p ∈ ts ++ (a, genO g.size nm qn) :: (D, W.listOf its 0) :: (x, xo) :: base := by
        intro p hp
        rcases List.mem_append.mp hp with hp | hp
        · exact List.mem_append.mpr (.inl hp)
        · exact List.mem_append.mpr (.inr (.tail _ (.tail _ (.tail _ hp))))
      have hPm := hinc _ hPm0
      clear hinc
      generalize hnw : ts ++ (a, genO g.size nm qn) :: (D, W.listOf its 0) :: (x, xo) :: base = nw₁ at *
      dsimp only at *
      repeat' (first | ((with_reducible show wpAny _ _ (eval (.Name _ _) _) _ _ _); refine' ld (by assumption) ?hv ?_; (case hv => first | exact rfl | assumption)) | ((with_reducible show wpAny _ _ (loadName _ _) _ _ _); refine' ldn (by assumption) ?hv ?_; (case hv => first | exact rfl | assumption)) | ((with_reducible show wpAny _ _ (binaryOp .Add (Value.ref _) (Value.ref _)) _ _ _); refine cat_lists (its2 := items.toArray) (by assumption) (by assumption) ⟨_, (‹News _ _ _ _› _ (.head _)).1, rfl, _, rfl⟩ ⟨_, (‹News _ _ _ _› _ (.tail _ (.tail _ (.tail _ (.tail _ hPm))))).1, rfl, _, rfl⟩ (by show 1 + _ ≤ _; omega) ?_; intro D₅ h₅ hD₅ F₅ N₅) | (k_unfold; (try dsimp only)) | (walk1; (try dsimp only)) | (dsimp only; walk1))
      rename_i ai h5 tO k1 ao T' h4 lT Lq h3 lL h2 tkx h1 tR k0 aR h0 F' N'
      obtain ⟨hitem, hsl, hsr⟩ := cut_facts hl1 (Int.ofNat_le.mp hv'.1) (Int.ofNat_le.mp hv'.2)
      rw [List.take_take, Nat.min_eq_left (Nat.sub_le _ _)] at hsr
      rw [hitem, hsl] at N'
      rw [hsr] at F'
      refine hnext h0 _ _ ((T', pairO (Value.str (txt ((((wd K).take nn).drop (nn - s)).take 1)) (tk₁ + 1)) (Value.str (txt ((((wd K).take nn).drop (nn - s)).drop 1)) tO)) :: (D₅, W.listOf (List.toArray (Value.ref T' :: items)) 0) :: nw₁) F' ?_ ?_ ⟨Value.ref T' :: items, D₅, (T', pairO (Value.str (txt ((((wd K).take nn).drop (nn - s)).take 1)) (tk₁ + 1)) (Value.str (txt ((((wd K).take nn).drop (nn - s)).drop 1)) tO)) :: (D₅, W.listOf (List.toArray (Value.ref T' :: items)) 0) :: ts, nn - s, ((wd K).take nn).drop (nn - s) :: ps, tR, by rw [← hnw]; rfl, .tail _ (.head _), Tup.cons (ts := (T', pairO (Value.str (txt ((((wd K).take nn).drop (nn - s)).take 1)) (tk₁ + 1)) (Value.str (txt ((((wd K).take nn).drop (nn - s)).drop 1)) tO)) :: (D₅, W.listOf (List.toArray (Value.ref T' :: items)) 0) :: (ts ++ base)) (htup.mono fun p hp => .tail _ (.tail _ hp)) (.head _), ?_, by simp only [List.length_cons]; omega, rfl, rfl, by omega, hcg, ((hag.put (x := Str.ofString "size") (by decide)).put (x := Str.ofString "pieces") (by decide)).put (x := Str.ofString "rest") (by decide)⟩
      · refine all_cons ?_ (all_cons ?_ (all_cons ?_ (all_cons ?_ (fun p hp => ?_))))
        · exact N' _ (.tail _ (.tail _ (.tail _ (.head _))))
        · exact N' _ (.tail _ (.tail _ (.tail _ (.tail _ (.head _)))))
        · exact N' _ (.tail _ (.tail _ (.head _)))
        · exact N' _ (.head _)
        · exact N' _ (.tail _ (.tail _ (.tail _ (.tail _ (.tail _ hp)))))
      · have hTD : T' < D₅ := hD₅ _ (.tail _ (.head _))
        refine all_cons ?_ (all_cons ?_ (fun p hp => ?_))
        · exact ⟨Nat.ne_of_gt lT.1, Nat.ne_of_gt lT.2.1⟩
        · exact ⟨Nat.ne_of_gt (Nat.lt_trans lT.1 hTD), Nat.ne_of_gt (Nat.lt_trans lT.2.1 hTD)⟩
        · exact hne p hp
      · have hxn : (x, xo) ∈ nw₁ := by rw [← hnw]; exact List.mem_append.mpr (.inr (.tail _ (.tail _ (.head _))))
        have hTD : T' < D₅ := hD₅ _ (.tail _ (.head _))
        have hxT : x < T' := AllLt.lt lT.2.2 _ hxn
        refine all_cons ?_ (all_cons ?_ (fun p hp => ?_))
        · exact Nat.ne_of_gt hxT
        · exact Nat.ne_of_gt (Nat.lt_trans hxT hTD)
        · exact hts p hp
    · intro h' tk' g' m' nw' F' N' ⟨items, Pc, ts, nn, ps, tr, e, hPm, htup, hts, hpi, hr, hpc, hnn, hcg, hag⟩ hfin hgo
      rw [List.drop_of_length_le (by omega), cg] at hcg
      split at hcg
      case isFalse => cases hcg
      rename_i h0
      subst h0
      obtain rfl : ps = cut total := Option.some.inj hcg
      subst e
      have hax : a ≠ x := Nat.ne_of_gt (Nat.lt_trans hxC hCa)
      refine hQ' _ ⟨h', g', tk', m', items, Pc, (a, genO g.size nm qn) :: (D, W.listOf its 0) :: (ts ++ base), tr, rfl, (hg.push hgb).moved (GenOnlyQ.of hgo hfin rfl), hag, hr, hpc, .tail _ (.tail _ hPm), htup.mono fun p hp => .tail _ (.tail _ hp), ?_, fun p hp => .tail _ (.tail _ (List.mem_append.mpr (.inr hp))), F', ?_⟩
      · refine all_cons ?_ (all_cons ?_ (fun p hp => ?_))
        · exact hax
        · exact hxD
        · rcases List.mem_append.mp hp with hp | hp
          · exact hts p hp
          · exact hx p hp
      · intro p hp
        refine N' p ?_
        rcases hp with _ | ⟨_, _ | ⟨_, _ | ⟨_, hp⟩⟩⟩
        · exact List.mem_append.mpr (.inr (.tail _ (.tail _ (.head _))))
        · exact List.mem_append.mpr (.inr (.head _))
        · exact List.mem_append.mpr (.inr (.tail _ (.head _)))
        · rcases List.mem_append.mp hp with hp | hp
          · exact List.mem_append.mpr (.inl hp)
          · exact List.mem_append.mpr (.inr (.tail _ (.tail _ (.tail _ hp))))
  rintro s' ⟨h', g', tk', m', items, Pc, nw, tr, rfl, a0, a1, a2, a3, a4, a5, a6, a7, F', N'⟩
  exact hQ h' g' tk' m' items Pc nw tr a0 a1 a2 a3 a4 a5 a6 a7 F' N'
end Mine
set_option maxRecDepth 100000
set_option maxHeartbeats 2000000
namespace Mine
open PySem PySem.W PySem.Calls PyProof.Rows
theorem filledLaw7 (P : Params) : PySem.Challenge.rw_wr0051_01 = PySem.Challenge.rw_wr0051_01 ∧ KK P = KK P := by k_fill; exact ⟨rfl, rfl⟩
noncomputable def dPair (w : List Nat) : PyData := .tuple [.str (txt (w.take 1)), .str (txt (w.drop 1))]
theorem tup_reads {h : Heap} : ∀ {l : List Value} {ps : List (List Nat)}, l.length = ps.length → (∀ (j : Nat) (w : List Nat), ps[j]? = some w → ∃ T t1 t2, (l[j]? : Option Value) = some (Value.ref T) ∧ h.get? T = some (pairO (Value.str (txt (w.take 1)) t1) (Value.str (txt (w.drop 1)) t2))) → ∃ as, ReadsAll h l (ps.map dPair) as
  | [], [], _, _ => ⟨_, .nil⟩
  | [], _ :: _, h, _ => by simp at h
  | _ :: _, [], h, _ => by simp at h
  | v :: l, w :: ps, hl, hr => by
    obtain ⟨T, t1, t2, e, hT⟩ := hr 0 w rfl
    obtain rfl : v = .ref T := by simpa using e
    obtain ⟨as, ra⟩ := tup_reads (l := l) (ps := ps) (by simpa using hl) fun j w hj => by
      obtain ⟨T, t1, t2, e, z⟩ := hr (j + 1) w hj
      exact ⟨T, t1, t2, by simpa using e, z⟩
    exact ⟨_, .cons (reads_tuple_at hT rfl rfl (.cons (.str _ _) (.cons (.str _ _) .nil))) ra⟩
theorem cut_shaped {n : Nat} (h : n ≤ 21) : SeqAt.shaped (.list ((cut n).map dPair)) = true := by
  have z : ∀ n : Fin 22, SeqAt.shaped (.list ((cut n.1).map dPair)) = true := by decide +kernel
  exact z ⟨n, by omega⟩
theorem cut_small {n : Nat} (h : n ≤ 21) : (cut n).length ≤ 8 := by
  have z : ∀ n : Fin 22, (cut n.1).length ≤ 8 := by decide +kernel
  exact z ⟨n, by omega⟩
theorem ne_tups {prog : Program} {w : World} {A : Around} {E : Value → Shared → Prop} {s : Shared} {B : Heap} {L D P : Addr} {news : List (Addr × Obj)} {its its2 : Array Value} {c c2 : Nat} {ps : List (List Nat)} {Q : Value → Shared → Prop} (N : News B L s.heap news)
    (hD : (D, W.listOf its c) ∈ news) (hP : (P, W.listOf its2 c2) ∈ news) (h1 : Tup its news ps) (h2 : Tup its2 news ps) (hs : SeqAt.shaped (.list (ps.map dPair)) = true) (hu : A.units + 64 < cLine) (h : Q (.bool false) s) :
    wpAny (model prog w) A (compareOp .NotEq (.ref D) (.ref P)) Q E s := by
  obtain ⟨as, ra⟩ := tup_reads (h := s.heap) (l := its.toList) (ps := ps) (by simpa using h1.1) fun j w hj => by
    obtain ⟨T, t1, t2, e, z⟩ := h1.2 j w hj
    exact ⟨T, t1, t2, by simpa using e, (N _ z).1⟩
  obtain ⟨bs, rb⟩ := tup_reads (h := s.heap) (l := its2.toList) (ps := ps) (by simpa using h2.1) fun j w hj => by
    obtain ⟨T, t1, t2, e, z⟩ := h2.2 j w hj
    exact ⟨T, t1, t2, by simpa using e, (N _ z).1⟩
  refine ne_dataH (reads_list_at (N _ hD).1 rfl rfl ra) (reads_list_at (N _ hP).1 rfl rfl rb) hs hs hu ?_
  have hc : (PyData.list (ps.map dPair)).canLay0 = true := by
    unfold SeqAt.shaped at hs; exact (Bool.and_eq_true_iff.mp hs).1
  rw [PySem.SeqAt.eqv_refl _ hc]
  exact h
theorem ph7 {w : World} {mean : ExcName → Option Value} {mg mb : Str → Option Value} {B : Heap} (T : Top₁ mean mg mb B) (X : (KK w.params).In B)
    {A : Around} {L x dx Pc : Addr} {h : Heap} {g : Array GenState} {d : Drawn} {tk total c : Nat} {items : Array Value} {od : Obj} {fv : Value} {pit : List Value} {os : OsState} {nw : List (Addr × Obj)} {m : Str → Option Value} {tr : Tok} {Q : Flow → Shared → Prop}
    (F : Fr B L h m) (N : News B L h ((x, pileO dx items c) :: nw)) (hx : ∀ p ∈ nw, p.1 ≠ x) (hPc : (Pc, W.listOf (List.toArray pit) 0) ∈ nw) (h2 : (dx, od) ∈ nw) (O : Own od fv) (htup : Tup items nw (cut total)) (hpt : Tup pit.toArray nw (cut total)) (hm2 : m (Str.ofString "pile") = some (.ref x)) (hm3 : m (Str.ofString "rest") = some (.str (txt []) tr)) (hm4 : m (Str.ofString "pieces") = some (.ref Pc)) (ht2 : total ≤ 21) (hd : A.depth + 20 < recursionLimit) (hu : A.units + 64 < cLine) (hh : A.handled = none)
    (hQ : ∀ h' tk' c', Fr B L h' m → News B L h' ((x, pileO dx #[] c') :: nw) → wpAny (M₁ w) A (execs (lawS 10) (envL L)) Q (fun _ _ => False) ⟨h', g, d, tk', os⟩) :
    wpAny (M₁ w) A (execs (lawS 9) (envL L)) Q (fun _ _ => False) ⟨h, g, d, tk, os⟩ := by
  obtain ⟨ah, ad, af, ag, au⟩ := A
  obtain rfl : ah = none := hh
  have hdd : ad + 20 < recursionLimit := hd
  have hcs := cut_small ht2
  have his : items.size ≤ 8 := by rw [htup.1]; exact hcs
  have hneL : ∀ c', ∀ p ∈ (x, pileO dx #[] c') :: nw, p.1 ≠ L := by
    intro c'
    refine all_cons ?_ (fun p hp => ?_)
    · exact (N _ (.head _)).2.1
    · exact (N _ (.tail _ hp)).2.1
  replace hneL := hneL (if items.size = 0 then c else c + 1)
  rw [show lawS 9 = nthS (defBody (cell 20)) 9 :: lawS 10 from rfl]
  generalize hst : nthS (defBody (cell 20)) 9 = st
  refine execs_cut (R := fun s' => ∃ h' tk' c', s' = ⟨h', g, d, tk', os⟩ ∧ Fr B L h' m ∧ News B L h' ((x, pileO dx #[] c') :: nw)) ?_ ?_
  · intro Q' hQ'
    subst hst
    show wpAny _ _ (exec (Stmt.If _ _ _ _) _) _ _ _
    repeat' (first | ((with_reducible show wpAny _ _ (eval (.Name _ _) _) _ _ _); refine' ld (by assumption) ?hv ?_; (case hv => first | exact rfl | assumption)) | ((with_reducible show wpAny _ _ (loadName _ _) _ _ _); refine' ldn (by assumption) ?hv ?_; (case hv => first | exact rfl | assumption)) | ((with_reducible show wpAny _ _ (getMethod (Value.ref x) (Str.ofString "pop_from") _) _ _ _); refine pile_method (f := 124) X (by assumption) (by assumption) (.head _) (.tail _ h2) (by kernel_rfl) (by kernel_rfl) O.popFrom ?_) | ((with_reducible show wpAny _ _ (call (Value.ref 124) _) _ _ _); refine spec_popfrom T X F N (.head _) (.tail _ h2) (by show ad + 1 < _; omega) rfl rfl (.head hx) (by omega) hneL ?_; intro h₁ tk₁ D hD hLD F₁ N₁) | ((with_reducible show wpAny _ _ (compareOp .NotEq (Value.ref D) (Value.ref Pc)) _ _ _); refine ne_tups (ps := cut total) N₁ (.head _) (.tail _ (.tail _ hPc)) (htup.mono fun p hp => .tail _ (.tail _ hp)) (hpt.mono fun p hp => .tail _ (.tail _ hp)) (cut_shaped ht2) hu ?_) | (k_unfold; (try dsimp only)) | (walk1; (try dsimp only)) | (dsimp only; walk1))
    exact hQ' _ ⟨_, _, _, rfl, F₁, fun p hp => N₁ p (.tail _ hp)⟩
  rintro s' ⟨h', tk', c', rfl, F', N'⟩
  exact hQ h' tk' c' F' N'
end Mine
set_option maxRecDepth 100000
set_option maxHeartbeats 2000000
namespace Mine
open PySem PySem.W PySem.Calls PyProof.Rows
theorem filledLaw8 (P : Params) : PySem.Challenge.rw_wr0051_01 = PySem.Challenge.rw_wr0051_01 ∧ KK P = KK P := by k_fill; exact ⟨rfl, rfl⟩
noncomputable def oNames : List Str := [Str.ofString "letter", Str.ofString "others"]
/-- the pile's pairs as functions of their place -/
theorem Tup.funs {its : Array Value} {ts : List (Addr × Obj)} {ps : List (List Nat)} (h : Tup its ts ps) : ∃ f : Nat → Addr × Tok × Tok, ∀ j, j < its.size → its[j]? = some (.ref (f j).1) ∧ ((f j).1, pairO (.str (txt ((ps.getD j []).take 1)) (f j).2.1) (.str (txt ((ps.getD j []).drop 1)) (f j).2.2)) ∈ ts := by
  have : ∀ j, ∃ p : Addr × Tok × Tok, j < its.size → its[j]? = some (.ref p.1) ∧ (p.1, pairO (.str (txt ((ps.getD j []).take 1)) p.2.1) (.str (txt ((ps.getD j []).drop 1)) p.2.2)) ∈ ts := by
    intro j
    by_cases hj : j < its.size
    · have hj' : j < ps.length := by rw [← h.1]; exact hj
      obtain ⟨T, t1, t2, e, z⟩ := h.2 j ps[j] (List.getElem?_eq_getElem hj')
      refine ⟨(T, t1, t2), fun _ => ⟨e, ?_⟩⟩
      rw [show ps.getD j [] = ps[j] by simp [List.getD_eq_getElem?_getD, List.getElem?_eq_getElem hj']]
      exact z
    · exact ⟨(0, default, default), fun h => absurd h hj⟩
  exact Classical.axiomOfChoice this
theorem ph8 {w : World} {mean : ExcName → Option Value} {mg mb : Str → Option Value} {B : Heap} (T : Top₁ mean mg mb B) (X : (KK w.params).In B)
    {A : Around} {L x dx Pc : Addr} {h : Heap} {g : Array GenState} {d : Drawn} {tk total c : Nat} {od : Obj} {fv : Value} {pit : List Value} {os : OsState} {nw : List (Addr × Obj)} {m : Str → Option Value} {Q : Flow → Shared → Prop}
    (F : Fr B L h m) (N : News B L h ((x, pileO dx #[] c) :: nw)) (hx : ∀ p ∈ nw, p.1 ≠ x) (hPc : (Pc, W.listOf (List.toArray pit) 0) ∈ nw) (h2 : (dx, od) ∈ nw) (O : Own od fv) (hpt : Tup pit.toArray nw (cut total)) (hm2 : m (Str.ofString "pile") = some (.ref x)) (hm4 : m (Str.ofString "pieces") = some (.ref Pc)) (ht2 : total ≤ 21) (hd : A.depth + 20 < recursionLimit) (hh : A.handled = none)
    (hQ : ∀ h' tk' m' items c' ts, Agree oNames m' m → Tup items ts (cut total) → (∀ p ∈ ts ++ nw, p.1 ≠ x) → Fr B L h' m' → News B L h' ((x, pileO dx items c') :: (ts ++ nw)) → wpAny (M₁ w) A (execs (lawS 11) (envL L)) Q (fun _ _ => False) ⟨h', g, d, tk', os⟩) :
    wpAny (M₁ w) A (execs (lawS 10) (envL L)) Q (fun _ _ => False) ⟨h, g, d, tk, os⟩ := by
  obtain ⟨ah, ad, af, ag, au⟩ := A
  obtain rfl : ah = none := hh
  have hdd : ad + 20 < recursionLimit := hd
  have hcs := cut_small ht2
  have hps : pit.toArray.size = (cut total).length := hpt.1
  rw [show lawS 10 = nthS (defBody (cell 20)) 10 :: lawS 11 from rfl]
  generalize hst : nthS (defBody (cell 20)) 10 = st
  refine execs_cut (R := fun s' => ∃ h' tk' m' items c' ts, s' = ⟨h', g, d, tk', os⟩ ∧ Agree oNames m' m ∧ Tup items ts (cut total) ∧ (∀ p ∈ ts ++ nw, p.1 ≠ x) ∧ Fr B L h' m' ∧ News B L h' ((x, pileO dx items c') :: (ts ++ nw))) ?_ ?_
  · intro Q' hQ'
    subst hst
    show wpAny _ _ (exec (Stmt.For (.Tuple _ _ _) _ _ [] _) _) _ _ _
    refine for_pair (h₀ := B) rfl (by rfl) (by rfl) (by rfl) ?_
    refine ld F hm4 ?_
    have hl : h.IsList Pc pit.toArray := ⟨_, (N _ (.tail _ hPc)).1, rfl, _, rfl⟩
    refine wpAny_pyIter_list hl ?_
    obtain ⟨f, hf⟩ := hpt.funs
    have hlt : ∀ p ∈ (x, pileO dx #[] c) :: nw, p.1 < h.objs.size := fun p hp => Heap.lt_size (N p hp).1
    have F₁ := F.push { cls := .type "list_iterator", data := .fields #[.ref Pc, .int 0 0] }
    have N₁ := N.push F { cls := .type "list_iterator", data := .fields #[.ref Pc, .int 0 0] }
    have hLD : L < h.objs.size := F.ns.lt
    have hBD : B.objs.size ≤ h.objs.size := frame_size F
    dsimp only
    generalize hD : h.objs.size = D at *
    generalize hh₁ : h.push { cls := .type "list_iterator", data := .fields #[.ref Pc, .int 0 0] } = h₁ at *
    refine ⟨D, D :: Pc :: (List.range pit.toArray.size).map (fun j => (f j).1), [D], pit.toArray.size, _, _, _, m, (x, pileO dx #[] c) :: nw, nw, fun i m' n' => ∃ items' c' ts, n' = (x, pileO dx items' c') :: (ts ++ nw) ∧ Agree oNames m' m ∧ Tup items' ts ((cut total).take i) ∧ (∀ p ∈ ts ++ nw, p.1 ≠ x),
      rfl, walks_pairs rfl D Pc (Nat.ne_of_lt (hlt _ (.tail _ hPc))) pit.toArray (fun j => (f j).1) (fun j => #[.str (txt (((cut total).getD j []).take 1)) (f j).2.1, .str (txt (((cut total).getD j []).drop 1)) (f j).2.2]) (fun j hj => (hf j hj).1) (fun j hj => Nat.ne_of_lt (hlt _ (.tail _ (hf j hj).2))), ?_, ?_, ?_, ?_, ?_, ?_, ⟨?_, ?_, ?_⟩, F₁, fun p hp => N₁ p (.tail _ hp), ?_, ?_, ?_, ?_⟩
    · rintro i v rfl; exact ⟨_, _, rfl⟩
    · intro hm'; exact absurd (List.mem_singleton.mp hm') (Nat.ne_of_lt hLD)
    · intro b hb; rw [List.mem_singleton.mp hb]; exact get_none_of_size hBD
    · rintro i hp ⟨⟨o, hit, _⟩, _⟩ b hb
      rw [List.mem_singleton.mp hb]; exact ⟨o, hit⟩
    · intro b hb
      rcases List.mem_cons.mp hb with rfl | hb
      · exact .inl (.head _)
      rcases List.mem_cons.mp hb with rfl | hb
      · exact .inr ⟨_, hPc⟩
      · obtain ⟨j, hj, rfl⟩ := List.mem_map.mp hb
        exact .inr ⟨_, (hf j (List.mem_range.mp hj)).2⟩
    · intro p hp hm'
      exact absurd (List.mem_singleton.mp hm') (Nat.ne_of_lt (hlt p hp))
    · exact ⟨_, (N₁ _ (.head _)).1, rfl, rfl⟩
    · exact ⟨_, _, (N₁ _ (.tail _ (.tail _ hPc))).1, rfl⟩
    · intro k hk
      exact ⟨_, (N₁ _ (.tail _ (.tail _ (hf k hk).2))).1, rfl, _, rfl⟩
    · rintro i m' n' ⟨items', c', ts, rfl, _⟩ p hp
      exact .tail _ (List.mem_append.mpr (.inr hp))
    · exact ⟨#[], c, [], rfl, Agree.refl _ _, ⟨rfl, fun j w h => (nomatch h)⟩, hx⟩
    · rintro i va vb m₁ news₁ h₅ tk₅ ob Q₁ hi hvv ⟨items', c', ts, rfl, hag, htup, hts⟩ hne F₅ N₅ hnext hret
      obtain ⟨rfl, rfl⟩ : va = .str (txt (((cut total).getD i []).take 1)) (f i).2.1 ∧ vb = .str (txt (((cut total).getD i []).drop 1)) (f i).2.2 := by
        have := congrArg Array.toList hvv; simpa using this
      have hi' : i < (cut total).length := by omega
      have hgi : (cut total)[i]? = some ((cut total).getD i []) := by
        rw [List.getD_eq_getElem?_getD, List.getElem?_eq_getElem hi']; rfl
      have hps' : items'.size ≤ 8 := by rw [htup.1, List.length_take]; omega
      have z100 : 100 ≤ sizeLine := by decide
      generalize (cut total).getD i [] = wi at *
      have hDx : D ≠ x := fun e => hne _ (.head _) (by rw [e]; exact .head _)
      have hpm : m₁ (Str.ofString "pile") = some (.ref x) := (hag _ (by decide)).trans hm2
      replace F₅ : Fr B L h₅ (put (put m₁ (Str.ofString "letter") (.str (txt (wi.take 1)) (f i).2.1)) (Str.ofString "others") (.str (txt (wi.drop 1)) (f i).2.2)) := F₅
      replace N₅ : News B L h₅ ((D, ob D) :: (x, pileO dx items' c') :: (ts ++ nw)) := N₅
      have hneL : ∀ v, ∀ p ∈ (D, ob D) :: (x, pileO dx (items'.push v) (c' + 1)) :: (ts ++ nw), p.1 ≠ L := by
        intro v
        refine all_cons ?_ (all_cons ?_ (fun p hp => ?_))
        · exact (N₅ _ (.head _)).2.1
        · exact (N₅ _ (.tail _ (.head _))).2.1
        · exact (N₅ _ (.tail _ (.tail _ hp))).2.1
      clear N F N₁ F₁
      dsimp only at *
      repeat' (first | ((with_reducible show wpAny _ _ (eval (.Name _ _) _) _ _ _); refine' ld (by assumption) ?hv ?_; (case hv => first | exact rfl | assumption)) | ((with_reducible show wpAny _ _ (loadName _ _) _ _ _); refine' ldn (by assumption) ?hv ?_; (case hv => first | exact rfl | assumption)) | ((with_reducible show wpAny _ _ (getMethod (Value.ref x) (Str.ofString "push") _) _ _ _); refine pile_method (f := 116) X (by assumption) (by assumption) (.tail _ (.head _)) (.tail _ (.tail _ (List.mem_append.mpr (.inr h2)))) (by kernel_rfl) (by kernel_rfl) O.push ?_) | ((with_reducible show wpAny _ _ (call (Value.ref 116) _) _ _ _); refine spec_push (gn := fun v => (D, ob D) :: (x, pileO dx (items'.push v) (c' + 1)) :: (ts ++ nw)) T X F₅ N₅ (.tail _ (.head _)) (.tail _ (.tail _ (List.mem_append.mpr (.inr h2)))) (fun v => .tail hDx (.head hts)) O (by show ad < _; omega) rfl (by omega) hneL ?_; intro h₆ tk₆ T₆ F₆ N₆ hT₆ hL₆) | (k_unfold; (try dsimp only)) | (walk1; (try dsimp only)) | (dsimp only; walk1))
      have hxT : x < T₆ := hT₆ _ (.tail _ (.head _))
      have hDT : D < T₆ := hT₆ _ (.head _)
      refine hnext h₆ _ _ ((x, pileO dx (items'.push (.ref T₆)) (c' + 1)) :: (((T₆, pairO (.str (txt (wi.take 1)) (f i).2.1) (.str (txt (wi.drop 1)) (f i).2.2)) :: ts) ++ nw)) F₆ ?_ ?_ ⟨items'.push (.ref T₆), c' + 1, (T₆, pairO (.str (txt (wi.take 1)) (f i).2.1) (.str (txt (wi.drop 1)) (f i).2.2)) :: ts, rfl, (hag.put (x := Str.ofString "letter") (by decide)).put (x := Str.ofString "others") (by decide), ?_, ?_⟩
      · refine all_cons ?_ (all_cons ?_ (all_cons ?_ (fun p hp => ?_)))
        · exact N₆ _ (.tail _ (.head _))
        · exact N₆ _ (.tail _ (.tail _ (.head _)))
        · exact N₆ _ (.head _)
        · exact N₆ _ (.tail _ (.tail _ (.tail _ hp)))
      · intro p hp hm'
        have hm' : p.1 = D := List.mem_singleton.mp hm'
        rcases hp with _ | ⟨_, _ | ⟨_, hp⟩⟩
        · exact hDx hm'.symm
        · exact Nat.ne_of_gt hDT hm'
        · exact hne p (.tail _ hp) (by rw [hm']; exact .head _)
      · rw [List.take_add_one (i := i), hgi]; exact htup.push
      · refine all_cons ?_ (fun p hp => ?_)
        · exact Nat.ne_of_gt hxT
        · exact hts p hp
    · rintro h' tk' m' n' F' N' ⟨items', c', ts, rfl, hag, htup, hts⟩
      rw [List.take_of_length_le (by omega)] at htup
      exact hQ' _ ⟨h', tk', m', items', c', ts, rfl, hag, htup, hts, F', N'⟩
  rintro s' ⟨h', tk', m', items, c', ts, rfl, a1, a2, a3, F', N'⟩
  exact hQ h' tk' m' items c' ts a1 a2 a3 F' N'
end Mine
set_option maxRecDepth 100000
set_option maxHeartbeats 2000000
namespace Mine
open PySem PySem.W PySem.Calls PyProof.Rows
theorem filledLaw9 (P : Params) : PySem.Challenge.rw_wr0051_01 = PySem.Challenge.rw_wr0051_01 ∧ KK P = KK P := by k_fill; exact ⟨rfl, rfl⟩
noncomputable def lastP (n : Nat) : Int := (partsOf n).getD ((partsOf n).length - 1) 0
theorem parts_pos {n : Nat} (h : 1 ≤ n ∧ n ≤ 21) : 1 ≤ (partsOf n).length := by
  have z : ∀ n : Fin 22, 1 ≤ n.1 → 1 ≤ (partsOf n.1).length := by decide +kernel
  exact z ⟨n, by omega⟩ h.1
theorem last_at {n : Nat} {us : List Value} (hus : IntsAre us (partsOf n)) (h : 1 ≤ n ∧ n ≤ 21) : ∃ t, us[((-1 : Int) + us.length).toNat]? = some (.int (lastP n) t) := by
  have hp := parts_pos h
  have hl := hus.length
  rw [show ((-1 : Int) + us.length).toNat = (partsOf n).length - 1 by omega]
  obtain ⟨t, e⟩ := hus.get ((partsOf n).length - 1) _ (List.getElem?_eq_getElem (by omega))
  refine ⟨t, ?_⟩
  rw [e, lastP, List.getD_eq_getElem?_getD, List.getElem?_eq_getElem (by omega)]; rfl
theorem blanks (n : Int) : Txt.mul (Str.ofString " ") n = txt (List.replicate n.toNat 32) := by
  have e := mul_one_list 32 n
  rw [show Str.ofString " " = ⟨#[32]⟩ from rfl]
  generalize Txt.mul (⟨#[32]⟩ : Str) n = y at *
  obtain ⟨cps⟩ := y
  unfold txt
  rw [← e]
theorem heap_text (a b : Int) : Txt.mul (Str.ofString " ") a ++ Str.ofString "x" ++ Txt.mul (Str.ofString " ") b = heapS a.toNat b.toNat := by
  rw [blanks, blanks, show Str.ofString "x" = txt [120] from rfl, txt_app, txt_app]
  unfold heapS heapL
  rw [List.append_assoc]; rfl
noncomputable def hNames : List Str := [Str.ofString "left", Str.ofString "heap", Str.ofString "popper"]
theorem ph9 {w : World} {mean : ExcName → Option Value} {mg mb : Str → Option Value} {B : Heap} (T : Top₁ mean mg mb B) (X : (KK w.params).In B)
    {A : Around} {L : Addr} {h : Heap} {g : Array GenState} {d : Drawn} {tk total limit ahead : Nat} {os : OsState} {nw : List (Addr × Obj)} {m : Str → Option Value} {t1 t2 t3 : Tok} {Q : Flow → Shared → Prop}
    (F : Fr B L h m) (N : News B L h nw) (hm1 : m (Str.ofString "total") = some (.int total t1)) (hm2 : m (Str.ofString "limit") = some (.int limit t2)) (hm3 : m (Str.ofString "ahead") = some (.int ahead t3)) (htot : 1 ≤ total ∧ total ≤ 21) (hah : ahead ≤ total) (hd : A.depth + 20 < recursionLimit) (hh : A.handled = none)
    (hQ : ∀ h' tk' m' ta tb, Agree hNames m' m → m' (Str.ofString "left") = some (.int total ta) → m' (Str.ofString "heap") = some (.str (heapS ahead (total - ahead)) tb) → m' (Str.ofString "popper") = some (.bool (decide (lastP total ≤ limit))) → Fr B L h' m' → News B L h' nw → wpAny (M₁ w) A (execs (lawS 13) (envL L)) Q (fun _ _ => False) ⟨h', g, d, tk', os⟩) :
    wpAny (M₁ w) A (execs (lawS 11) (envL L)) Q (fun _ _ => False) ⟨h, g, d, tk, os⟩ := by
  obtain ⟨ah, ad, af, ag, au⟩ := A
  obtain rfl : ah = none := hh
  have hdd : ad + 20 < recursionLimit := hd
  rw [show lawS 11 = nthS (defBody (cell 20)) 11 :: lawS 12 from rfl]
  generalize hst : nthS (defBody (cell 20)) 11 = st
  refine execs_cut (R := fun s' => ∃ h' tk' m' ta tb, s' = ⟨h', g, d, tk', os⟩ ∧ Agree hNames m' m ∧ m' (Str.ofString "left") = some (.int total ta) ∧ m' (Str.ofString "heap") = some (.str (heapS ahead (total - ahead)) tb) ∧ Fr B L h' m' ∧ News B L h' nw) ?_ ?_
  · intro Q' hQ'
    subst hst
    show wpAny _ _ (exec (Stmt.Assign [.Tuple _ _ _] (.Tuple _ _ _) _) _) _ _ _
    repeat' (first | ((with_reducible show wpAny _ _ (eval (.Name _ _) _) _ _ _); refine' ld (by assumption) ?hv ?_; (case hv => first | exact rfl | assumption)) | ((with_reducible show wpAny _ _ (loadName _ _) _ _ _); refine' ldn (by assumption) ?hv ?_; (case hv => first | exact rfl | assumption)) | (k_unfold; (try dsimp only)) | (walk1; (try dsimp only)) | (dsimp only; walk1))
    rename_i F' N'
    rw [heap_text, Int.toNat_natCast, show ((total : Int) - ahead).toNat = total - ahead by omega] at F'
    exact hQ' _ ⟨_, _, _, _, _, rfl, ((Agree.refl hNames m).put (x := Str.ofString "heap") (by decide)).put (x := Str.ofString "left") (by decide), rfl, rfl, F', fun p hp => N' p (.tail _ hp)⟩
  rintro s' ⟨h₁, tk₁, m₁, ta, tb, rfl, hag, hl, hp, F₁, N₁⟩
  have hm1' : m₁ (Str.ofString "total") = some (.int total t1) := (hag _ (by decide)).trans hm1
  have hm2' : m₁ (Str.ofString "limit") = some (.int limit t2) := (hag _ (by decide)).trans hm2
  clear F N hm1 hm2 hm3
  rw [show lawS 12 = nthS (defBody (cell 20)) 12 :: lawS 13 from rfl]
  generalize hst : nthS (defBody (cell 20)) 12 = st
  refine execs_cut (R := fun s' => ∃ h' tk', s' = ⟨h', g, d, tk', os⟩ ∧ Fr B L h' (put m₁ (Str.ofString "popper") (.bool (decide (lastP total ≤ limit)))) ∧ News B L h' nw) ?_ ?_
  · intro Q' hQ'
    subst hst
    show wpAny _ _ (exec (Stmt.Assign [.Name _ _] (.Compare _ _ _ _) _) _) _ _ _
    repeat' (first | ((with_reducible show wpAny _ _ (eval (.Name _ _) _) _ _ _); refine' ld (by assumption) ?hv ?_; (case hv => first | exact rfl | assumption)) | ((with_reducible show wpAny _ _ (loadName _ _) _ _ _); refine' ldn (by assumption) ?hv ?_; (case hv => first | exact rfl | assumption)) | ((with_reducible show wpAny _ _ (call (Value.ref 204) _) _ _ _); refine spec_parts T X (by assumption) (by assumption) (by show ad < _; omega) rfl ⟨by omega, by omega⟩ ?_; intro h₁ tk₁ P us cP hus0 hP F₁ N₁; obtain ⟨tl, hlast⟩ := last_at hus0 htot) | ((with_reducible show wpAny _ _ (subscriptTail _ _ (Value.ref P) _) _ _ _); refine item_neg (us := us) (by assumption) (.head _) hlast (by decide) (by have := hus0.length; have := parts_pos htot; omega) (by decide) ?_) | (k_unfold; (try dsimp only)) | (walk1; (try dsimp only)) | (dsimp only; walk1))
    rename_i F' N'
    exact hQ' _ ⟨_, _, rfl, F', fun p hp => N' p (.tail _ hp)⟩
  rintro s' ⟨h', tk', rfl, F', N'⟩
  exact hQ h' tk' _ ta tb (hag.put (x := Str.ofString "popper") (by decide)) hl hp rfl F' N'
end Mine
set_option maxRecDepth 100000
set_option maxHeartbeats 2000000
namespace Mine
open PySem PySem.W PySem.Calls PyProof.Rows
theorem filledLaw10a (P : Params) : PySem.Challenge.rw_wr0051_01 = PySem.Challenge.rw_wr0051_01 ∧ KK P = KK P := by k_fill; exact ⟨rfl, rfl⟩
section
variable {prog : Program} {w : World} {A : Around} {env : Env} {h₀ : Heap}
noncomputable def LoopRG (prog : Program) (w : World) (A : Around) (h₀ : Heap) (env : Env) (x : Str) (body : List Stmt) (Q : Flow → Shared → Prop) (it : Value) (s₂ : Shared) : Prop :=
  ∃ (I : Addr) (fp : List Addr) (n : Nat) (P : Nat → Value → Prop) (St : Nat → Heap → Prop) (m : Str → Option Value) (news fpo : List (Addr × Obj)) (J : Nat → (Str → Option Value) → List (Addr × Obj) → Array GenState → Prop),
    it = .ref I ∧ Walks prog w A I fp [I] n P St ∧ env.locals ≠ I ∧ h₀.get? I = none ∧ (∀ i h, St i h → ∃ io : Obj, h.get? I = some io ∧ io.cls = .type "range_iterator") ∧ (∀ b ∈ fp, b = I ∨ ∃ o, (b, o) ∈ fpo) ∧ (∀ p ∈ news, p.1 ≠ I) ∧ St 0 s₂.heap ∧ Fr h₀ env.locals s₂.heap m ∧
    News h₀ env.locals s₂.heap news ∧ (∀ i m' n' g', J i m' n' g' → ∀ p ∈ fpo, p ∈ n') ∧ J 0 m news s₂.gens ∧
    (∀ i v m₁ news₁ h₁ tk₁ g₁ io (Q' : Flow → Shared → Prop), io.cls = .type "range_iterator" → i < n → P i v → J i m₁ news₁ g₁ → (∀ p ∈ news₁, p.1 ≠ I) → Fr h₀ env.locals h₁ (put m₁ x v) → News h₀ env.locals h₁ ((I, io) :: news₁) →
      (∀ h₂ tk₂ g₂ m₂ news₂, Fr h₀ env.locals h₂ m₂ → News h₀ env.locals h₂ ((I, io) :: news₂) → (∀ p ∈ news₂, p.1 ≠ I) → J (i + 1) m₂ news₂ g₂ → Q' .next { s₂ with heap := h₂, gens := g₂, toks := tk₂ }) →
      (∀ v s', Q (.ret v) s' → Q' (.ret v) s') →
      wpAny (model prog w) A (execs body env) Q' (fun _ _ => False) { s₂ with heap := h₁, gens := g₁, toks := tk₁ }) ∧
    ∀ h' tk g' m' news', Fr h₀ env.locals h' m' → News h₀ env.locals h' news' → J n m' news' g' → Q .next { s₂ with heap := h', gens := g', toks := tk }

theorem for_genG {s : Shared} {x : Str} {px pos : Pos} {iter : Expr} {body : List Stmt} {Q : Flow → Shared → Prop} (h₀ : Heap) (hx : env.kindOf x = some .local)
    (hp : (env.scope.kind == .class || (env.scope.kind == .module && env.locals != env.globals)) = false)
    (h : wpAny (model prog w) A (eval iter env) (fun xv s₁ => wpAny (model prog w) A (pyIter xv) (fun it s₂ => LoopRG prog w A h₀ env x body Q it s₂) (fun _ _ => False) s₁) (fun _ _ => False) s)
    (hs : ∀ x, foldedSetIterable iter env x = pure x := by intro _; rfl) :
    wpAny (model prog w) A (exec (.For (.Name x px) iter body [] pos) env) Q (fun _ _ => False) s := by
  refine wpAny_For (wpAny_mono h (fun xv s₁ h₁ => wpAny_mono h₁ (fun it s₂ h₂ => ?_) fun _ _ e => e) fun _ _ e => e) hs
  obtain ⟨I, fp, n, P, St, m, news, fpo, J, rfl, W, hLI, hI, hio, hfp, hnw, hst, F, N, hJf, h0, step, hQ⟩ := h₂
  have old : ∀ b o, h₀.get? b = some o → b ∉ [I] := fun b o e hb => by rw [List.mem_singleton.mp hb, hI] at e; cases e
  refine codeAny_forLoop (R := fun r s' => match r with | .ok f => Q f s' | .error e => cameBackBy (model prog w) A env (fun _ _ => False) e s')
    (fun k s' => ∃ h' tk g' m' news' i, s' = { s₂ with heap := h', gens := g', toks := tk } ∧ St i h' ∧ Fr h₀ env.locals h' m' ∧ News h₀ env.locals h' news' ∧ (∀ p ∈ news', p.1 ≠ I) ∧ J i m' news' g' ∧ i ≤ n ∧ k = n + 1 - i) ?_ (n + 1)
    ⟨s₂.heap, s₂.toks, s₂.gens, m, news, 0, rfl, hst, F, N, hnw, h0, Nat.zero_le _, rfl⟩
  rintro k s' ⟨h', tk, g', m', news', i, rfl, hst', F', N', hnw', hJ, hi, rfl⟩
  have next : ∀ h₁ : Heap, (∀ b o, b ∉ [I] → h'.get? b = some o → h₁.get? b = some o) → Fr h₀ env.locals h₁ m' ∧ News h₀ env.locals h₁ news' := fun h₁ hk₁ =>
    ⟨⟨F'.ns.at' fun o e => hk₁ _ o (fun z => hLI (List.mem_singleton.mp z)) e, fun b o e => hk₁ b o (old b o e) (F'.keep b o e), F'.above⟩, fun p hp => ⟨hk₁ _ _ (fun z => hnw' p hp (List.mem_singleton.mp z)) (N' p hp).1, (N' p hp).2⟩⟩
  by_cases hlt : i < n
  · refine W.item i _ _ _ hlt hst' fun v h₁ tk₁ hP hst₁ hk₁ => ?_
    obtain ⟨F₁, N₁⟩ := next h₁ hk₁
    refine wpAny_assign_Name (wpAny_storeName_local hx F₁.ns (fun h₂ hn₂ hs₂ => ?_) hp)
    have F₂ := F₁.set hn₂ hs₂
    obtain ⟨io, hio₁, hioc⟩ := hio _ _ hst₁
    have hio₂ : h₂.get? I = some io := (hs₂.2 I (Ne.symm hLI)).trans hio₁
    have N₂ : News h₀ env.locals h₂ ((I, io) :: news') := by
      intro p hp
      rcases List.mem_cons.mp hp with rfl | hp
      · exact ⟨hio₂, Ne.symm hLI, hI⟩
      · exact N₁.set hs₂ p hp
    have hpass : PassesOwn (model prog w) A env (fun _ _ => False) := by passes_own
    refine wpAny_passesOwn hpass (step i v m' news' h₂ _ g' io _ hioc hlt hP hJ hnw' F₂ N₂ ?_ ?_)
    · intro h₃ tk₃ g₃ m₂ news₂ F₃ N₃ hne₃ hJ₃
      refine ⟨n + 1 - (i + 1), by omega, h₃, tk₃, g₃, m₂, news₂, i + 1, rfl, ?_, F₃, fun p hp => N₃ p (.tail _ hp), hne₃, hJ₃, hlt, rfl⟩
      refine W.frame _ _ _ hst₁ fun b hb o e => ?_
      rcases hfp b hb with rfl | ⟨o', hm⟩
      · rw [hio₁] at e; cases e
        exact (N₃ _ (.head _)).1
      · have e' := (N₁ _ (hJf _ _ _ _ hJ _ hm)).1
        rw [e'] at e; cases e
        exact (N₃ _ (.tail _ (hJf _ _ _ _ hJ₃ _ hm))).1
    · intro v s' hv
      exact hv
  · have hin : i = n := by omega
    subst hin
    refine W.done _ _ _ hst' fun h₁ tk₁ hk₁ => wpAny_execs_nil ?_
    obtain ⟨F₁, N₁⟩ := next h₁ hk₁
    exact hQ h₁ tk₁ g' m' news' F₁ N₁ hJ

end
theorem iter_range {prog : Program} {w : World} {A : Around} {env : Env} {h₀ : Heap} {Q : Flow → Shared → Prop} {x : Str} {body : List Stmt} {m : Str → Option Value} {news : List (Addr × Obj)} {h : Heap} {g : Array GenState} {d : Drawn} {tk n : Nat} {os : OsState} {ta tb tc : Tok}
    (J : Nat → (Str → Option Value) → List (Addr × Obj) → Array GenState → Prop) (F : Fr h₀ env.locals h m) (N : News h₀ env.locals h news) (hh : A.handled = none) (hn : n ≤ 30)
    (h0 : J 0 m news g)
    (step : ∀ I io i t1 m₁ news₁ h₁ tk₁ g₁ (Q' : Flow → Shared → Prop), io.cls = .type "range_iterator" → i < n → J i m₁ news₁ g₁ → (∀ p ∈ news₁, p.1 ≠ I) → (∀ p ∈ news, p.1 < I) → Fr h₀ env.locals h₁ (put m₁ x (.int (i : Nat) t1)) → News h₀ env.locals h₁ ((I, io) :: news₁) →
      (∀ h₂ tk₂ g₂ m₂ news₂, Fr h₀ env.locals h₂ m₂ → News h₀ env.locals h₂ ((I, io) :: news₂) → (∀ p ∈ news₂, p.1 ≠ I) → J (i + 1) m₂ news₂ g₂ → Q' .next ⟨h₂, g₂, d, tk₂, os⟩) →
      (∀ v s', Q (.ret v) s' → Q' (.ret v) s') → wpAny (model prog w) A (execs body env) Q' (fun _ _ => False) ⟨h₁, g₁, d, tk₁, os⟩)
    (hQ : ∀ h' tk g' m' news', Fr h₀ env.locals h' m' → News h₀ env.locals h' news' → J n m' news' g' → Q .next ⟨h', g', d, tk, os⟩) :
    wpAny (model prog w) A (pyIter (.ref h.objs.size)) (fun it s₂ => LoopRG prog w A h₀ env x body Q it s₂) (fun _ _ => False) ⟨h.push { cls := .type "range", data := .fields #[.int 0 ta, .int n tb, .int 1 tc] }, g, d, tk, os⟩ := by
  have hsm : Builtin.Range.small 0 (n : Int) 1 = true := by
    have z : ∀ n : Fin 31, Builtin.Range.small 0 (n.1 : Int) 1 = true := by decide +kernel
    exact z ⟨n, by omega⟩
  have hrs : Builtin.Range.rangeSize 0 (n : Int) 1 = n := by
    have z : ∀ n : Fin 31, Builtin.Range.rangeSize 0 (n.1 : Int) 1 = n.1 := by decide +kernel
    exact z ⟨n, by omega⟩
  have hsz : (h.push { cls := .type "range", data := .fields #[.int 0 ta, .int n tb, .int 1 tc] }).objs.size = h.objs.size + 1 := Heap.size_push ..
  refine wpAny_pyIter_range (a := 0) (b := n) (c := 1) (Heap.get?_push_size _ rfl) hsm ?_
  dsimp only
  have F₁ := F.push { cls := .type "range", data := .fields #[.int 0 ta, .int n tb, .int 1 tc] }
  have N₁ := N.push F { cls := .type "range", data := .fields #[.int 0 ta, .int n tb, .int 1 tc] }
  have hlt : ∀ p ∈ news, p.1 < h.objs.size + 1 := fun p hp => Nat.lt_succ_of_lt (Heap.lt_size (N p hp).1)
  have hL : env.locals < h.objs.size + 1 := Nat.lt_succ_of_lt F.ns.lt
  have hB : h₀.objs.size ≤ h.objs.size + 1 := Nat.le_succ_of_le (frame_size F)
  generalize h.push { cls := .type "range", data := .fields #[.int 0 ta, .int n tb, .int 1 tc] } = h₁ at *
  have F₂ := F₁.push { cls := .type "range_iterator", data := .fields #[rawInt 0, rawInt (Builtin.Range.rangeSize 0 (n : Int) 1), rawInt 1] }
  have N₂ := N₁.push F₁ { cls := .type "range_iterator", data := .fields #[rawInt 0, rawInt (Builtin.Range.rangeSize 0 (n : Int) 1), rawInt 1] }
  have hst : IsRangeIter (h₁.push { cls := .type "range_iterator", data := .fields #[rawInt 0, rawInt (Builtin.Range.rangeSize 0 (n : Int) 1), rawInt 1] }) h₁.objs.size (0 + ((0 : Nat) : Int) * 1) ((n : Int) - ((0 : Nat) : Int)) 1 := by
    show IsRangeIter _ _ _ _ _
    rw [hrs]; simpa using Heap.get?_push_size _ rfl
  refine ⟨h₁.objs.size, [h₁.objs.size], n, _, _, m, news, [], J, rfl, Walks.range hh h₁.objs.size 0 1 n, ?_, ?_, ?_, ?_, ?_, hst, F₂, ?_, ?_, h0, ?_, hQ⟩
  · rw [hsz]; exact Nat.ne_of_lt hL
  · exact get_none_of_size (by rw [hsz]; exact hB)
  · intro i h st; exact ⟨_, st, rfl⟩
  · intro b hb; exact .inl (List.mem_singleton.mp hb)
  · intro p hp; rw [hsz]; exact Nat.ne_of_lt (hlt p hp)
  · intro p hp; exact N₂ p (.tail _ (.tail _ hp))
  · intro i m' n' g' _ p hp; cases hp
  · rintro i v m₁ news₁ h₂ tk₂ g₁ io Q' hioc hi ⟨t, rfl⟩ hJ hne F₃ N₃ hnext hret
    rw [show (0 + (i : Int) * 1) = (i : Nat) by omega] at F₃
    exact step _ io i t m₁ news₁ h₂ tk₂ g₁ Q' hioc hi hJ hne (fun p hp => by rw [hsz]; exact hlt p hp) F₃ N₃ hnext hret
end Mine
set_option maxRecDepth 100000
set_option maxHeartbeats 2000000
namespace Mine
open PySem PySem.W PySem.Calls PyProof.Rows
theorem filledLaw10p (P : Params) : PySem.Challenge.rw_wr0051_01 = PySem.Challenge.rw_wr0051_01 ∧ KK P = KK P := by k_fill; exact ⟨rfl, rfl⟩
/-- the word that lies uppermost when n letters are left -/
noncomputable def jOf (n : Nat) : Nat := ((List.range 7).find? fun j => (wd j).length == (lastP n).toNat).getD 0
theorem turn_facts {n : Nat} (h : 1 ≤ n ∧ n ≤ 21) : cut n = (cut n).dropLast ++ [wd (jOf n)] ∧ ((wd (jOf n)).length : Int) = lastP n ∧ jOf n ≤ 6 ∧ (wd (jOf n)).length ≤ n ∧ (cut n).dropLast = cut (n - (wd (jOf n)).length) ∧ (1 ≤ n - (wd (jOf n)).length → ¬ lastP (n - (wd (jOf n)).length) ≤ 2 * (wd (jOf n)).length) := by
  have z : ∀ n : Fin 22, 1 ≤ n.1 → (cut n.1 = (cut n.1).dropLast ++ [wd (jOf n.1)] ∧ ((wd (jOf n.1)).length : Int) = lastP n.1 ∧ jOf n.1 ≤ 6 ∧ (wd (jOf n.1)).length ≤ n.1 ∧ (cut n.1).dropLast = cut (n.1 - (wd (jOf n.1)).length) ∧ (1 ≤ n.1 - (wd (jOf n.1)).length → ¬ lastP (n.1 - (wd (jOf n.1)).length) ≤ 2 * (wd (jOf n.1)).length)) := by decide +kernel
  exact z ⟨n, by omega⟩ h.1
theorem other_facts {n t : Nat} (h : 1 ≤ n ∧ n ≤ 21) (ht : 1 ≤ t ∧ t < (wd (jOf n)).length) : 1 ≤ jOf n ∧ (cut n).dropLast ++ cut ((wd (jOf n)).length - t) = cut (n - t) ∧ lastP (n - t) ≤ 2 * t := by
  have z : ∀ n : Fin 22, 1 ≤ n.1 → ∀ t : Fin 22, 1 ≤ t.1 ∧ t.1 < (wd (jOf n.1)).length → 1 ≤ jOf n.1 ∧ (cut n.1).dropLast ++ cut ((wd (jOf n.1)).length - t.1) = cut (n.1 - t.1) ∧ lastP (n.1 - t.1) ≤ 2 * t.1 := by decide +kernel
  have := (turn_facts h).2.2.2.1
  exact z ⟨n, by omega⟩ h.1 ⟨t, by omega⟩ ht
theorem lay_word {j r : Nat} (h : 1 ≤ j ∧ j ≤ 6) (hr : r < (wd j).length) : layR (wds (j - 1)).reverse ((wd j).take r) [] = some (cut r, []) := by
  have z : ∀ j : Fin 7, 1 ≤ j.1 → ∀ r : Fin 22, r.1 < (wd j.1).length → layR (wds (j.1 - 1)).reverse ((wd j.1).take r.1) [] = some (cut r.1, []) := by decide +kernel
  have l : ∀ K : Fin 7, (wd K).length ≤ 21 := by decide +kernel
  have l1 : (wd j).length ≤ 21 := l ⟨j, by omega⟩
  exact z ⟨j, by omega⟩ h.1 ⟨r, by omega⟩ hr
theorem cut_flat {K n : Nat} (hK : K ≤ 6) (hn : n ≤ (wd K).length) : (cut n).flatten = (wd K).take n := by
  have z : ∀ K : Fin 7, ∀ n : Fin 22, n.1 ≤ (wd K.1).length → (cut n.1).flatten = (wd K.1).take n.1 := by decide +kernel
  have l : ∀ K : Fin 7, (wd K).length ≤ 21 := by decide +kernel
  have l1 : (wd K).length ≤ 21 := l ⟨K, by omega⟩
  exact z ⟨K, by omega⟩ ⟨n, by omega⟩ hn
theorem cut_parts {n : Nat} (h : n ≤ 21) : (cut n).length = (partsOf n).length := by
  have z : ∀ n : Fin 22, (cut n.1).length = (partsOf n.1).length := by decide +kernel
  exact z ⟨n, by omega⟩
theorem cut_words {n : Nat} (h : n ≤ 21) : ∀ w ∈ cut n, w.length ≤ 21 := by
  have z : ∀ n : Fin 22, ∀ w ∈ cut n.1, w.length ≤ 21 := by decide +kernel
  exact z ⟨n, by omega⟩
theorem jOf_le {K n : Nat} (hK : K ≤ 6) (h : 1 ≤ n) (hn : n ≤ (wd K).length) : jOf n ≤ K := by
  have z : ∀ K : Fin 7, ∀ n : Fin 22, 1 ≤ n.1 → n.1 ≤ (wd K.1).length → jOf n.1 ≤ K.1 := by decide +kernel
  have l : ∀ K : Fin 7, (wd K).length ≤ 21 := by decide +kernel
  have l1 : (wd K).length ≤ 21 := l ⟨K, by omega⟩
  exact z ⟨K, by omega⟩ ⟨n, by omega⟩ h hn
theorem told_shaped {K n f : Nat} (hK : K ≤ 6) (hn : n ≤ 21) (hf : f ≤ 2) : PySem.SeqAt.shaped (.list [.str (txt ((wd K).take n)), .int (f + n : Nat), .int (partsOf n).length]) = true := by
  have z : ∀ K : Fin 7, ∀ n : Fin 22, ∀ f : Fin 3, PySem.SeqAt.shaped (.list [.str (txt ((wd K.1).take n.1)), .int (f.1 + n.1 : Nat), .int (partsOf n.1).length]) = true := by decide +kernel
  exact z ⟨K, by omega⟩ ⟨n, by omega⟩ ⟨f, by omega⟩
theorem wd_apart {i j : Nat} (hj : j ≤ 6) (h : i < j) : (txt (wd i) == txt (wd j)) = false := by
  have z : ∀ j : Fin 7, ∀ i : Fin 7, i.1 < j.1 → (txt (wd i.1) == txt (wd j.1)) = false := by decide +kernel
  exact z ⟨j, by omega⟩ ⟨i, by omega⟩ h
theorem cut_zero : cut 0 = [] := by decide +kernel
end Mine
set_option maxRecDepth 100000
set_option maxHeartbeats 2000000
namespace Mine
open PySem PySem.W PySem.Calls PyProof.Rows

theorem filledLaw10b (P : Params) : PySem.Challenge.rw_wr0051_01 = PySem.Challenge.rw_wr0051_01 ∧ KK P = KK P := by k_fill; exact ⟨rfl, rfl⟩
noncomputable def turnB : List Stmt := match nthS (defBody (cell 20)) 13 with | .For _ _ b _ _ => b | _ => []
structure Apart (x I : Addr) (rest : List (Addr × Obj)) : Prop where
  x134 : x ≠ 134
  x141 : x ≠ 141
  I134 : I ≠ 134
  I141 : I ≠ 141
  Ix : I ≠ x
  rest : ∀ p ∈ rest, p.1 ≠ x ∧ p.1 ≠ 134 ∧ p.1 ≠ 141 ∧ p.1 ≠ I
theorem pairs_flat (ps : List (List Nat)) : ((List.range ps.length).map fun j => (ps.getD j []).take 1 ++ (ps.getD j []).drop 1) = ps := by
  apply List.ext_getElem
  · simp
  · intro i h1 h2
    simp only [List.getElem_map, List.getElem_range, List.take_append_drop]
    simp [List.getD_eq_getElem?_getD, List.getElem?_eq_getElem h2]
theorem sumOf_flat (first : Int) : ∀ (ps : List (List Nat)) (n : Nat), n ≤ ps.length → sumOf (fun j => ((txt ((ps.getD j []).take 1)).length + (txt ((ps.getD j []).drop 1)).length : Int)) first n = first + ((ps.take n).flatten.length : Int)
  | ps, 0, _ => by simp [sumOf]
  | ps, n + 1, h => by
    rw [sumOf, sumOf_flat first ps n (by omega), List.take_add_one (i := n), List.getElem?_eq_getElem (show n < ps.length by omega)]
    have e : ps.getD n [] = ps[n] := by simp [List.getD_eq_getElem?_getD, List.getElem?_eq_getElem (show n < ps.length by omega)]
    rw [e, txt_len, txt_len]
    simp only [Option.toList_some, List.flatten_append, List.length_append, List.flatten_cons, List.flatten_nil, List.append_nil, List.length_take, List.length_drop]
    omega
theorem str_pile {w : World} {mean : ExcName → Option Value} {mg mb : Str → Option Value} {B : Heap} (T : Top₁ mean mg mb B) (X : (KK w.params).In B)
    {A : Around} {L : Addr} {h : Heap} {g : Array GenState} {d : Drawn} {tk : Nat} {os : OsState} {news : List (Addr × Obj)} {gn : Array Value → List (Addr × Obj)} {m : Str → Option Value} {x dx : Addr} {items ps : Array Value} {c : Nat} {od : Obj} {Ts : Nat → Addr} {sa sb : Nat → List Nat} {ta tb : Nat → Tok} {Q E : Value → Shared → Prop}
    (F : Fr B L h m) (N : News B L h news) (hg : AllBare g) (h1 : (x, pileO dx items c) ∈ news) (h2 : (dx, od) ∈ news) (h3 : (141, tabO ps) ∈ news) (U : ∀ ps', Upd 141 (tabO ps) (tabO ps') news (gn ps')) (hps : TabOk ⟨69, 32, 69, 85⟩ ps)
    (hT : ∀ j, j < items.size → items[j]? = some (.ref (Ts j)) ∧ (Ts j, pairO (.str (txt (sa j)) (ta j)) (.str (txt (sb j)) (tb j))) ∈ news)
    (hsz : items.size ≤ 500) (hlen : ∀ j, j < items.size → (sa j).length ≤ 1000 ∧ (sb j).length ≤ 1000) (hd : A.depth + 10 < recursionLimit) (hu : A.units + 64 < cLine) (hh : A.handled = none) (hsum : ((((List.range items.size).map fun j => sa j ++ sb j).map List.length).sum + items.size ≤ 1048576))
    (hQ : ∀ h' g' tk' ps' t, TabOk ⟨69, 32, 69, 85⟩ ps' → AllBare g' → Fr B L h' m → News B L h' (gn ps') → Q (.str (txt ((List.range items.size).map fun j => sa j ++ sb j).flatten) t) ⟨h', g', d, tk', os⟩) :
    wpAny (M₁ w) A (call (.type "str") [.ref x]) Q E ⟨h, g, d, tk, os⟩ :=
  kso_call (K := KK w.params) (C := 172) (f := 146) (by show A.units + 1 + 1 < _; omega) (X.keeps F.keep) (inst_pile N h1 h2) (by kernel_rfl) (by kernel_rfl)
    (spec_str T X (A := A.in1.in1) F N hg h1 h2 h3 U hps hT hsz hlen hd hh hsum hQ)
theorem len_pile {w : World} {mean : ExcName → Option Value} {mg mb : Str → Option Value} {B : Heap} (T : Top₁ mean mg mb B) (X : (KK w.params).In B)
    {A : Around} {L : Addr} {h : Heap} {g : Array GenState} {d : Drawn} {tk : Nat} {os : OsState} {news : List (Addr × Obj)} {gn : Array Value → List (Addr × Obj)} {m : Str → Option Value} {x dx : Addr} {items ps : Array Value} {c : Nat} {od : Obj} {first : Int} {t1 : Tok} {Ts : Nat → Addr} {sa sb : Nat → Str} {ta tb : Nat → Tok} {Q E : Value → Shared → Prop}
    (F : Fr B L h m) (N : News B L h news) (hg : AllBare g) (h1 : (x, pileO dx items c) ∈ news) (h2 : (dx, od) ∈ news) (O : Own od (.int first t1)) (h3 : (134, tabO ps) ∈ news) (U : ∀ ps', Upd 134 (tabO ps) (tabO ps') news (gn ps')) (hps : TabOk ⟨66, 19, 66, 63⟩ ps)
    (hT : ∀ j, j < items.size → items[j]? = some (.ref (Ts j)) ∧ (Ts j, pairO (.str (sa j) (ta j)) (.str (sb j) (tb j))) ∈ news)
    (hlen : ∀ j, j < items.size → (sa j).length ≤ 1000 ∧ (sb j).length ≤ 1000) (hd : A.depth + 10 < recursionLimit) (hh : A.handled = none)
    (hbd : 0 ≤ sumOf (fun j => (sa j).length + (sb j).length) first items.size ∧ sumOf (fun j => (sa j).length + (sb j).length) first items.size < 2 ^ 63)
    (hQ : ∀ h' g' tk' ps' t, TabOk ⟨66, 19, 66, 63⟩ ps' → AllBare g' → Fr B L h' m → News B L h' (gn ps') → Q (.int (sumOf (fun j => (sa j).length + (sb j).length) first items.size) t) ⟨h', g', d, tk', os⟩) :
    wpAny (M₁ w) A (call (.builtin "len") [.ref x]) Q E ⟨h, g, d, tk, os⟩ :=
  len_K (K := KK w.params) (C := 172) (f := 139) F X (inst_pile N h1 h2) (by kernel_rfl) (by kernel_rfl)
    (spec_len T X (A := A.in1) F N hg h1 h2 O h3 U hps hT hlen hd hh fun h' g' tk' ps' t a b F' N' => ⟨hbd, hQ h' g' (tk' + 1) ps' _ a b F' N'⟩)
theorem ta1 {w : World} {mean : ExcName → Option Value} {mg mb : Str → Option Value} {B : Heap} (T : Top₁ mean mg mb B) (X : (KK w.params).In B)
    {A : Around} {L x dx I Wd : Addr} {h : Heap} {g : Array GenState} {d : Drawn} {tk K left first c cw : Nat} {os : OsState} {io od : Obj} {items p1 p2 : Array Value} {rest : List (Addr × Obj)} {m : Str → Option Value} {t1 t2 t3 : Tok} {us : List Value} {Q : Flow → Shared → Prop}
    (F : Fr B L h m) (N : News B L h ((I, io) :: (x, pileO dx items c) :: (134, tabO p1) :: (141, tabO p2) :: rest)) (AP : Apart x I rest) (hg : AllBare g) (h2 : (dx, od) ∈ rest) (hW : (Wd, W.listOf us.toArray cw) ∈ rest) (hus : StrsTxt us (wds K)) (O : Own od (.int first t1)) (htup : Tup items rest (cut left))
    (hp1 : TabOk ⟨66, 19, 66, 63⟩ p1) (hp2 : TabOk ⟨69, 32, 69, 85⟩ p2) (hm1 : m (Str.ofString "pile") = some (.ref x)) (hm2 : m (Str.ofString "words") = some (.ref Wd)) (hm3 : m (Str.ofString "left") = some (.int left t2)) (hm4 : m (Str.ofString "first") = some (.int first t3))
    (hK : K ≤ 6) (hlK : left ≤ (wd K).length) (hl21 : left ≤ 21) (hf2 : first ≤ 2) (hd : A.depth + 20 < recursionLimit) (hu : A.units + 64 < cLine) (hh : A.handled = none)
    (hQ : ∀ h' g' tk' p1' p2', TabOk ⟨66, 19, 66, 63⟩ p1' → TabOk ⟨69, 32, 69, 85⟩ p2' → AllBare g' → Fr B L h' m → News B L h' ((I, io) :: (x, pileO dx items c) :: (134, tabO p1') :: (141, tabO p2') :: rest) → Q .next ⟨h', g', d, tk', os⟩) :
    wpAny (M₁ w) A (exec (nthS turnB 0) (envL L)) Q (fun _ _ => False) ⟨h, g, d, tk, os⟩ := by
  obtain ⟨ah, ad, af, ag, au⟩ := A
  obtain rfl : ah = none := hh
  have hdd : ad + 20 < recursionLimit := hd
  obtain ⟨f, hf⟩ := htup.funs
  have hcs := cut_small hl21
  have hsz := htup.1
  have hmem : ∀ {q : Addr × Obj} {a b c' d' : Addr × Obj}, q ∈ rest → q ∈ a :: b :: c' :: d' :: rest := fun h => .tail _ (.tail _ (.tail _ (.tail _ h)))
  have hflat := cut_flat hK hlK
  have hfl : (cut left).flatten.length = left := by rw [hflat, List.length_take]; omega
  have hw21 : ∀ j, ((cut left).getD j []).length ≤ 21 := by
    intro j
    by_cases hj : j < (cut left).length
    · rw [List.getD_eq_getElem?_getD, List.getElem?_eq_getElem hj]; exact cut_words hl21 _ (List.getElem_mem hj)
    · rw [List.getD_eq_getElem?_getD, List.getElem?_eq_none (by omega)]; exact Nat.zero_le _
  have hlenA : ∀ j, j < items.size → (((cut left).getD j []).take 1).length ≤ 1000 ∧ (((cut left).getD j []).drop 1).length ≤ 1000 := by
    intro j _
    have := hw21 j
    rw [List.length_take, List.length_drop]; omega
  have hlenB : ∀ j, j < items.size → (txt (((cut left).getD j []).take 1)).length ≤ 1000 ∧ (txt (((cut left).getD j []).drop 1)).length ≤ 1000 := by
    intro j hj
    rw [txt_len, txt_len]; exact hlenA j hj
  have hpf : ((List.range items.size).map fun j => ((cut left).getD j []).take 1 ++ ((cut left).getD j []).drop 1) = cut left := by
    rw [hsz]; exact pairs_flat _
  have hsum : ((((List.range items.size).map fun j => ((cut left).getD j []).take 1 ++ ((cut left).getD j []).drop 1).map List.length).sum + items.size ≤ 1048576) := by
    rw [hpf, ← List.length_flatten, hfl]; omega
  have hsumv : sumOf (fun j => ((txt (((cut left).getD j []).take 1)).length + (txt (((cut left).getD j []).drop 1)).length : Int)) first items.size = ((first + left : Nat) : Int) := by
    rw [hsz, sumOf_flat _ _ _ (Nat.le_refl _), List.take_of_length_le (Nat.le_refl _), hfl]; omega
  have hbd : 0 ≤ sumOf (fun j => ((txt (((cut left).getD j []).take 1)).length + (txt (((cut left).getD j []).drop 1)).length : Int)) first items.size ∧ sumOf (fun j => ((txt (((cut left).getD j []).take 1)).length + (txt (((cut left).getD j []).drop 1)).length : Int)) first items.size < 2 ^ 63 := by
    rw [hsumv]; constructor <;> omega
  have hr134 : ∀ {o : Obj}, ∀ p ∈ (141, o) :: rest, p.1 ≠ 134 := by
    intro o
    refine all_cons ?_ (fun p hp => ?_)
    · show (141 : Nat) ≠ 134; decide
    · exact (AP.rest p hp).2.1
  show wpAny _ _ (exec (Stmt.If (.Compare (.List _ _) _ _ _) _ _ _) _) _ _ _
  repeat' (first | ((with_reducible show wpAny _ _ (eval (.Name _ _) _) _ _ _); refine' ld (by assumption) ?hv ?_; (case hv => first | exact rfl | assumption)) | ((with_reducible show wpAny _ _ (loadName _ _) _ _ _); refine' ldn (by assumption) ?hv ?_; (case hv => first | exact rfl | assumption)) | ((with_reducible show wpAny _ _ (call (Value.type "str") _) _ _ _); refine str_pile (ps := p2) (gn := fun p => (I, io) :: (x, pileO dx items c) :: (134, tabO p1) :: (141, tabO p) :: rest) (Ts := fun j => (f j).1) (sa := fun j => ((cut left).getD j []).take 1) (sb := fun j => ((cut left).getD j []).drop 1) (ta := fun j => (f j).2.1) (tb := fun j => (f j).2.2) T X F N hg (.tail _ (.head _)) (hmem h2) (.tail _ (.tail _ (.tail _ (.head _)))) (fun p => .tail AP.I141 (.tail AP.x141 (.tail (by show (134 : Nat) ≠ 141; decide) (.head fun q hq => (AP.rest q hq).2.2.1)))) hp2 (fun j hj => ⟨(hf j hj).1, hmem (hf j hj).2⟩) (by omega) hlenA (by show ad + 10 < _; omega) hu rfl hsum ?_; intro h₁ g₁ tk₁ p2' tS hp2' hg₁ F₁ N₁) | ((with_reducible show wpAny _ _ (call (Value.builtin "len") [Value.ref x]) _ _ _); refine len_pile (ps := p1) (gn := fun p => (I, io) :: (x, pileO dx items c) :: (134, tabO p) :: (141, tabO p2') :: rest) (Ts := fun j => (f j).1) (sa := fun j => txt (((cut left).getD j []).take 1)) (sb := fun j => txt (((cut left).getD j []).drop 1)) (ta := fun j => (f j).2.1) (tb := fun j => (f j).2.2) T X F₁ N₁ hg₁ (.tail _ (.head _)) (hmem h2) O (.tail _ (.tail _ (.head _))) (fun p => .tail AP.I134 (.tail AP.x134 (.head hr134))) hp1 (fun j hj => ⟨(hf j hj).1, hmem (hf j hj).2⟩) hlenB (by show ad + 10 < _; omega) rfl hbd ?_; intro h₂ g₂ tk₂ p1' tL hp1' hg₂ F₂ N₂) | ((with_reducible show wpAny _ _ (getMethod (Value.ref x) (Str.ofString "part_count") _) _ _ _); refine pile_method (f := 169) X F₂ N₂ (.tail _ (.head _)) (hmem h2) (by kernel_rfl) (by kernel_rfl) O.count ?_) | ((with_reducible show wpAny _ _ (call (Value.ref 169) _) _ _ _); refine spec_count T X F₂ N₂ (.tail _ (.head _)) (hmem h2) (by show ad < _; omega) rfl ?_; intro h₃ tk₃ tC F₃ N₃) | ((fail_if_success (with_reducible show wpAny _ _ (subscriptTail _ _ (Value.ref Wd) _) _ _ _)); k_unfold; (try dsimp only)) | ((fail_if_success (with_reducible show wpAny _ _ (subscriptTail _ _ (Value.ref Wd) _) _ _ _)); walk1; (try dsimp only)) | (dsimp only; (fail_if_success (with_reducible show wpAny _ _ (subscriptTail _ _ (Value.ref Wd) _) _ _ _)); walk1))
  rename_i l1 h₄ F₄ N₄ hl1
  rw [hpf, hflat, hsumv, hsz, cut_parts hl21] at N₄
  obtain ⟨tl, hlast0⟩ := hus.2 K (wd K) (wds_get (Nat.le_refl _))
  have hul : us.length = K + 1 := by rw [hus.1, wds_len]
  have hlast : us[((-1 : Int) + us.length).toNat]? = some (.str (txt (wd K)) tl) := by rw [show ((-1 : Int) + us.length).toNat = K by omega]; exact hlast0
  have hwl2 : (txt (wd K)).length ≤ 34 := by rw [txt_len]; exact wd_len_le K (by omega)

  repeat' (first | ((with_reducible show wpAny _ _ (eval (.Name _ _) _) _ _ _); refine' ld (by assumption) ?hv ?_; (case hv => first | exact rfl | assumption)) | ((with_reducible show wpAny _ _ (loadName _ _) _ _ _); refine' ldn (by assumption) ?hv ?_; (case hv => first | exact rfl | assumption)) | ((with_reducible show wpAny _ _ (subscriptTail _ _ (Value.ref Wd) _) _ _ _); refine item_neg (us := us) (by assumption) (.tail _ (.tail _ (.tail _ (.tail _ (.tail _ hW))))) hlast (by decide) (by omega) (by decide) ?_) | ((with_reducible show wpAny _ _ (call (Value.ref 204) _) _ _ _); refine spec_parts T X (by assumption) (by assumption) (by show ad < _; omega) rfl ⟨by omega, by omega⟩ ?_; intro h₅ tk₅ P vs cP hvs hP F₅ N₅) | ((fail_if_success (with_reducible show wpAny _ _ (compareOp .NotEq (Value.ref _) (Value.ref _)) _ _ _)); k_unfold; (try dsimp only)) | ((fail_if_success (with_reducible show wpAny _ _ (compareOp .NotEq (Value.ref _) (Value.ref _)) _ _ _)); walk1; (try dsimp only)) | (dsimp only; (fail_if_success (with_reducible show wpAny _ _ (compareOp .NotEq (Value.ref _) (Value.ref _)) _ _ _)); walk1))
  have hvl : vs.toArray.size = (partsOf left).length := by rw [List.size_toArray]; exact hvs.length
  have hpl := (parts_small hl21).1
  refine kun_lenL (items := vs.toArray) (k := ((partsOf left).length : Int)) ⟨_, (N₅ _ (.head _)).1, rfl, _, rfl⟩ (by omega) (by omega) ?_
  repeat' (first | ((with_reducible show wpAny _ _ (eval (.Name _ _) _) _ _ _); refine' ld (by assumption) ?hv ?_; (case hv => first | exact rfl | assumption)) | ((with_reducible show wpAny _ _ (loadName _ _) _ _ _); refine' ldn (by assumption) ?hv ?_; (case hv => first | exact rfl | assumption)) | ((fail_if_success (with_reducible show wpAny _ _ (compareOp .NotEq (Value.ref _) (Value.ref _)) _ _ _)); k_unfold; (try dsimp only)) | ((fail_if_success (with_reducible show wpAny _ _ (compareOp .NotEq (Value.ref _) (Value.ref _)) _ _ _)); walk1; (try dsimp only)) | (dsimp only; (fail_if_success (with_reducible show wpAny _ _ (compareOp .NotEq (Value.ref _) (Value.ref _)) _ _ _)); walk1))
  rename_i l2 h₆ F₆ N₆ hl2
  rw [slice_txt_to (l := wd K) (j := (left : Int)) (by omega) (by omega), Int.toNat_natCast, show (first : Int) + left = ((first + left : Nat) : Int) by omega] at N₆
  have hsh := told_shaped (K := K) (n := left) (f := first) hK hl21 hf2
  refine ne_dataH (da := .list [.str (txt ((wd K).take left)), .int (first + left : Nat), .int (partsOf left).length]) (db := .list [.str (txt ((wd K).take left)), .int (first + left : Nat), .int (partsOf left).length]) (reads_list_at (N₆ _ (.tail _ (.tail _ (.head _)))).1 rfl rfl (.cons (.str _ _) (.cons (.int _ _) (.cons (.int _ _) .nil)))) (reads_list_at (N₆ _ (.head _)).1 rfl rfl (.cons (.str _ _) (.cons (.int _ _) (.cons (.int _ _) .nil)))) hsh hsh hu ?_
  have hc : (PyData.list [.str (txt ((wd K).take left)), .int (first + left : Nat), .int (partsOf left).length]).canLay0 = true := by
    unfold PySem.SeqAt.shaped at hsh; exact (Bool.and_eq_true_iff.mp hsh).1
  rw [PySem.SeqAt.eqv_refl _ hc]
  repeat' (first | ((with_reducible show wpAny _ _ (eval (.Name _ _) _) _ _ _); refine' ld (by assumption) ?hv ?_; (case hv => first | exact rfl | assumption)) | ((with_reducible show wpAny _ _ (loadName _ _) _ _ _); refine' ldn (by assumption) ?hv ?_; (case hv => first | exact rfl | assumption)) | (k_unfold; (try dsimp only)) | (walk1; (try dsimp only)) | (dsimp only; walk1))
  exact hQ _ _ _ _ _ hp1' hp2' hg₂ F₆ fun p hp => N₆ p (.tail _ (.tail _ (.tail _ hp)))
end Mine
set_option maxRecDepth 100000
set_option maxHeartbeats 2000000
namespace Mine
open PySem PySem.W PySem.Calls PyProof.Rows

theorem filledLaw10c (P : Params) : PySem.Challenge.rw_wr0051_01 = PySem.Challenge.rw_wr0051_01 ∧ KK P = KK P := by k_fill; exact ⟨rfl, rfl⟩
theorem Tup.last {items : Array Value} {ts : List (Addr × Obj)} {ps : List (List Nat)} {wd : List Nat} (h : Tup items ts (ps ++ [wd])) : ∃ its T t1 t2, items = its.push (.ref T) ∧ Tup its ts ps ∧ (T, pairO (Value.str (txt (wd.take 1)) t1) (Value.str (txt (wd.drop 1)) t2)) ∈ ts := by
  obtain ⟨h1, h2⟩ := h
  obtain ⟨l⟩ := items
  have hl : l.length = ps.length + 1 := by simpa using h1
  obtain ⟨T, t1, t2, e, hm⟩ := h2 ps.length wd (by simp)
  have hne : l ≠ [] := by intro e; rw [e] at hl; simp at hl
  have e' : l[ps.length]? = some (.ref T) := by simpa using e
  have hlast : l.dropLast ++ [Value.ref T] = l := by
    have := List.dropLast_concat_getLast hne
    rw [List.getLast_eq_getElem] at this
    have e2 : l[l.length - 1]'(by omega) = .ref T := by
      have := List.getElem?_eq_getElem (l := l) (i := ps.length) (by omega)
      rw [this] at e'
      have e3 := Option.some.inj e'
      simp only [hl, Nat.add_sub_cancel]; exact e3
    rw [e2] at this; exact this
  refine ⟨l.dropLast.toArray, T, t1, t2, ?_, ⟨by simp [hl], fun j w hj => ?_⟩, hm⟩
  · rw [List.push_toArray, hlast]
  · have hjl : j < ps.length := (List.getElem?_eq_some_iff.mp hj).1
    obtain ⟨T', t1', t2', e, hm'⟩ := h2 j w (by rw [List.getElem?_append_left hjl]; exact hj)
    refine ⟨T', t1', t2', ?_, hm'⟩
    have e' : l[j]? = some (.ref T') := by simpa using e
    simp only [List.getElem?_toArray]
    rw [← hlast, List.getElem?_append_left (by simp; omega)] at e'
    exact e'
theorem ta2 {w : World} {mean : ExcName → Option Value} {mg mb : Str → Option Value} {B : Heap} (T : Top₁ mean mg mb B) (X : (KK w.params).In B)
    {A : Around} {L x dx I T₀ : Addr} {h : Heap} {g : Array GenState} {d : Drawn} {tk c : Nat} {os : OsState} {io od : Obj} {fv : Value} {its p1 p2 : Array Value} {rest : List (Addr × Obj)} {m : Str → Option Value} {t1 t2 : Tok} {wo : List Nat} {Q : Flow → Shared → Prop}
    (F : Fr B L h m) (N : News B L h ((I, io) :: (x, pileO dx (its.push (.ref T₀)) c) :: (134, tabO p1) :: (141, tabO p2) :: rest)) (AP : Apart x I rest) (h2 : (dx, od) ∈ rest) (hT₀ : (T₀, pairO (Value.str (txt (wo.take 1)) t1) (Value.str (txt (wo.drop 1)) t2)) ∈ rest) (O : Own od fv)
    (hm1 : m (Str.ofString "pile") = some (.ref x)) (hw : wo.length ≤ 50) (hsz : its.size ≤ 50) (hd : A.depth + 20 < recursionLimit) (hh : A.handled = none)
    (hQ : ∀ h' tk' tw, Fr B L h' (put m (Str.ofString "word") (.str (txt wo) tw)) → News B L h' ((I, io) :: (x, pileO dx its (c + 1)) :: (134, tabO p1) :: (141, tabO p2) :: rest) → Q .next ⟨h', g, d, tk', os⟩) :
    wpAny (M₁ w) A (exec (nthS turnB 2) (envL L)) Q (fun _ _ => False) ⟨h, g, d, tk, os⟩ := by
  obtain ⟨ah, ad, af, ag, au⟩ := A
  obtain rfl : ah = none := hh
  have hdd : ad + 20 < recursionLimit := hd
  have hmem : ∀ {q : Addr × Obj} {a b c' d' : Addr × Obj}, q ∈ rest → q ∈ a :: b :: c' :: d' :: rest := fun h => .tail _ (.tail _ (.tail _ (.tail _ h)))
  have hrx : ∀ p ∈ (134, tabO p1) :: (141, tabO p2) :: rest, p.1 ≠ x := by
    refine all_cons ?_ (all_cons ?_ (fun p hp => ?_))
    · exact fun e => AP.x134 e.symm
    · exact fun e => AP.x141 e.symm
    · exact (AP.rest p hp).1
  have hneL : ∀ p ∈ (I, io) :: (x, pileO dx its (c + 1)) :: (134, tabO p1) :: (141, tabO p2) :: rest, p.1 ≠ L := by
    refine all_cons ?_ (all_cons ?_ (fun p hp => ?_))
    · exact (N _ (.head _)).2.1
    · exact (N _ (.tail _ (.head _))).2.1
    · exact (N p (.tail _ (.tail _ hp))).2.1
  show wpAny _ _ (exec (Stmt.Assign [.Name _ _] (.Call _ _ _ _) _) _) _ _ _
  repeat' (first | ((with_reducible show wpAny _ _ (eval (.Name _ _) _) _ _ _); refine' ld (by assumption) ?hv ?_; (case hv => first | exact rfl | assumption)) | ((with_reducible show wpAny _ _ (loadName _ _) _ _ _); refine' ldn (by assumption) ?hv ?_; (case hv => first | exact rfl | assumption)) | ((with_reducible show wpAny _ _ (getMethod (Value.ref x) (Str.ofString "pop") _) _ _ _); refine pile_method (f := 132) X F N (.tail _ (.head _)) (hmem h2) (by kernel_rfl) (by kernel_rfl) O.pop ?_) | ((with_reducible show wpAny _ _ (call (Value.ref 132) _) _ _ _); refine spec_pop T X F N (.tail _ (.head _)) (hmem h2) (.tail AP.Ix (.head hrx)) O (by show ad + 1 < _; omega) rfl (by omega) hneL ?_; intro h₁ tk₁ F₁ N₁) | ((fail_if_success (with_reducible show wpAny _ _ (call (Value.builtin "str.join") _) _ _ _)); k_unfold; (try dsimp only)) | ((fail_if_success (with_reducible show wpAny _ _ (call (Value.builtin "str.join") _) _ _ _)); walk1; (try dsimp only)) | (dsimp only; (fail_if_success (with_reducible show wpAny _ _ (call (Value.builtin "str.join") _) _ _ _)); walk1))
  refine join_tuple (items := #[Value.str (txt (wo.take 1)) t1, Value.str (txt (wo.drop 1)) t2]) (ys := [wo.take 1, wo.drop 1].map txt) ⟨_, (N₁ _ (hmem hT₀)).1, rfl, _, rfl⟩ (.cons _ _ (.cons _ _ .nil)) ?_ ?_
  · simp only [List.map_cons, List.map_nil, txt_len, List.sum_cons, List.sum_nil, List.length_cons, List.length_nil, List.length_take, List.length_drop]
    have : (Str.ofString "").length = 0 := rfl
    omega
  intro t' k'
  rw [join_txt, show [wo.take 1, wo.drop 1].flatten = wo by show wo.take 1 ++ (wo.drop 1 ++ []) = wo; rw [List.append_nil, List.take_append_drop]]
  repeat' (first | ((with_reducible show wpAny _ _ (eval (.Name _ _) _) _ _ _); refine' ld (by assumption) ?hv ?_; (case hv => first | exact rfl | assumption)) | ((with_reducible show wpAny _ _ (loadName _ _) _ _ _); refine' ldn (by assumption) ?hv ?_; (case hv => first | exact rfl | assumption)) | (k_unfold; (try dsimp only)) | (walk1; (try dsimp only)) | (dsimp only; walk1))
  rename_i F' N'
  exact hQ _ _ _ F' N'
end Mine
set_option maxRecDepth 100000
set_option maxHeartbeats 2000000
namespace Mine
open PySem PySem.W PySem.Calls PyProof.Rows

theorem filledLaw10d (P : Params) : PySem.Challenge.rw_wr0051_01 = PySem.Challenge.rw_wr0051_01 ∧ KK P = KK P := by k_fill; exact ⟨rfl, rfl⟩
theorem item_pos {prog : Program} {w : World} {A : Around} {h₀ : Heap} {news : List (Addr × Obj)} {value slice : Expr} {D L : Addr} {us : List Value} {c : Nat} {k : Int} {t : Tok} {v : Value} {s : Shared} {Q : Value → Shared → Prop} {E : Value → Shared → Prop} (N : News h₀ L s.heap news) (hm : (D, W.listOf us.toArray c) ∈ news)
    (hx : us[k.toNat]? = some v) (h0 : 0 ≤ k) (hfit : k < 2 ^ 63) (h : Q v s)
    (hs : subscripted slice false (.ref D) (.int k t) = operate [.ref D, .int k t] (getItem (.ref D) (.int k t)) := by with_unfolding_all rfl)
    (ht : ∀ r, letTemporaryGo value (.ref D) r = pure () := by intro _; with_unfolding_all rfl) :
    wpAny (model prog w) A (subscriptTail value slice (.ref D) (.int k t)) Q E s := by
  have hl : s.heap.IsList D us.toArray := ⟨_, (N _ hm).1, rfl, _, rfl⟩
  exact subscriptTail_ops hl.typeIs slot_list_getitem.lookup (wpAny_getItem_list hl h0 hfit (by simpa using hx) h) hs ht
noncomputable def isTxt (x : Str) : Value → Bool | .str a _ => a == x | _ => false
theorem index_words {prog : Program} {w : World} {A : Around} {E : Value → Shared → Prop} {s : Shared} {Wd : Addr} {us : List Value} {K j : Nat} {t : Tok} {Q : Value → Shared → Prop} (hl : s.heap.IsList Wd us.toArray) (hus : StrsTxt us (wds K)) (hK : K ≤ 6) (hj : j ≤ K)
    (h : Q (.int j s.toks) { s with toks := s.toks + 1 }) : wpAny (model prog w) A (call (.builtin "list.index") [.ref Wd, .str (txt (wd j)) t]) Q E s := by
  obtain ⟨⟨cls, dd, data, sl⟩, ho, hc, n, hd⟩ := id hl
  simp only at hc hd
  subst hc hd
  have hul : us.length = K + 1 := by rw [hus.1, wds_len]
  have at_ : ∀ i (hi : i ≤ K), ∃ t, us[i]'(by omega) = .str (txt (wd i)) t := by
    intro i hi
    obtain ⟨t, e⟩ := hus.2 i (wd i) (wds_get hi)
    rw [List.getElem?_eq_getElem (by omega)] at e
    exact ⟨t, Option.some.inj e⟩
  refine call_meets PySem.F.slot_list_index ⟨_, ho, rfl⟩ PySem.F.entry_list_index (PySem.F.args_list_index_2 _ _)
    (PySem.SeqAt.list_indexAt Wd us.toArray n dd sl (.str (txt (wd j)) t) (isTxt (txt (wd j))) j (by simp; omega) (by omega) ?_ ?_) ⟨ho, fun y hy => ?_, h⟩
  · obtain ⟨t', e⟩ := at_ j hj
    simp only [List.getElem_toArray, e, isTxt]; exact beq_self_eq_true _
  · intro i hi hij
    obtain ⟨t', e⟩ := at_ i (by omega)
    simp only [List.getElem_toArray, e, isTxt]; exact wd_apart (by omega) hij
  · obtain ⟨i, hi, rfl⟩ := List.mem_iff_getElem.mp (show y ∈ us by simpa using hy)
    obtain ⟨t', e⟩ := at_ i (by omega)
    rw [e]
    exact PySem.SeqAt.EqAt.str_str _ _ _ _
theorem StrsTxt.front {us : List Value} {K j : Nat} (h : StrsTxt us (wds K)) (hj : 1 ≤ j ∧ j ≤ K) : StrsTxt (us.take j) (wds (j - 1)) := by
  have hul : us.length = K + 1 := by rw [h.1, wds_len]
  refine ⟨by rw [wds_len, List.length_take]; omega, fun i w hw => ?_⟩
  have hi : i < j := by
    have := (List.getElem?_eq_some_iff.mp hw).1
    rw [wds_len] at this; omega
  rw [wds_get (by omega)] at hw
  obtain ⟨t, e⟩ := h.2 i w (by rw [wds_get (by omega)]; exact hw)
  exact ⟨t, by rw [List.getElem?_take_of_lt hi]; exact e⟩
theorem Tup.tight {its : Array Value} {ts : List (Addr × Obj)} {ps : List (List Nat)} (h : Tup its ts ps) : ∃ ts', Tup its ts' ps ∧ ∀ p ∈ ts', p ∈ ts ∧ p.2.cls = .type "tuple" := by
  obtain ⟨f, hf⟩ := h.funs
  refine ⟨(List.range its.size).map fun j => ((f j).1, pairO (.str (txt ((ps.getD j []).take 1)) (f j).2.1) (.str (txt ((ps.getD j []).drop 1)) (f j).2.2)), ⟨h.1, fun j w hj => ?_⟩, fun p hp => ?_⟩
  · have hjl : j < ps.length := (List.getElem?_eq_some_iff.mp hj).1
    have e : ps.getD j [] = w := by rw [List.getD_eq_getElem?_getD, hj]; rfl
    have hjs : j < its.size := by rw [h.1]; exact hjl
    refine ⟨(f j).1, (f j).2.1, (f j).2.2, (hf j hjs).1, List.mem_map.mpr ⟨j, List.mem_range.mpr hjs, by rw [e]⟩⟩
  · obtain ⟨j, hj, rfl⟩ := List.mem_map.mp hp
    exact ⟨(hf j (List.mem_range.mp hj)).2, rfl⟩
theorem News.apart {B : Heap} {L : Addr} {h : Heap} {news : List (Addr × Obj)} (N : News B L h news) {p q : Addr × Obj} (hp : p ∈ news) (hq : q ∈ news) (hne : p.2.cls ≠ q.2.cls) : p.1 ≠ q.1 := fun e => by
  have a := (N p hp).1
  rw [e, (N q hq).1] at a
  exact hne (by rw [Option.some.inj a])
theorem ta5 {w : World} {mean : ExcName → Option Value} {mg mb : Str → Option Value} {B : Heap} (T : Top₁ mean mg mb B) (X : (KK w.params).In B)
    {A : Around} {L x dx I Wd Nm : Addr} {h : Heap} {g : Array GenState} {d : Drawn} {tk K j lim i c cw cn : Nat} {os : OsState} {io od : Obj} {fv : Value} {items p1 p2 : Array Value} {ts base : List (Addr × Obj)} {m : Str → Option Value} {t1 t2 t3 t4 : Tok} {us vs : List Value} {vals : List Int} {ps0 : List (List Nat)} {Q : Flow → Shared → Prop}
    (F : Fr B L h m) (N : News B L h ((I, io) :: (x, pileO dx items c) :: (134, tabO p1) :: (141, tabO p2) :: (ts ++ base))) (AP : Apart x I (ts ++ base)) (h2 : (dx, od) ∈ base) (hW : (Wd, W.listOf us.toArray cw) ∈ base) (hNm : (Nm, W.listOf vs.toArray cn) ∈ base) (hus : StrsTxt us (wds K)) (hnum : Nums vs vals 100000000) (O : Own od fv) (htup : Tup items ts ps0)
    (hm1 : m (Str.ofString "pile") = some (.ref x)) (hm2 : m (Str.ofString "words") = some (.ref Wd)) (hm3 : m (Str.ofString "numbers") = some (.ref Nm)) (hm4 : m (Str.ofString "turn") = some (.int i t1)) (hm5 : m (Str.ofString "limit") = some (.int lim t2)) (hm6 : m (Str.ofString "word") = some (.str (txt (wd j)) t3)) (hm7 : m (Str.ofString "popper") = some (.bool false))
    (hio : io.cls = .type "range_iterator") (hK : K ≤ 6) (hjK : j ≤ K) (hj1 : 1 ≤ j) (hlim : 1 ≤ lim) (hlw : lim < (wd j).length) (hi : i ≤ 30) (hps : ps0.length ≤ 100) (hd : A.depth + 20 < recursionLimit) (hu : A.units + 64 < cLine) (hh : A.handled = none)
    (hQ : ∀ h' tk' items' c' ts' t tt, 1 ≤ t → t ≤ lim → Tup items' ts' (ps0 ++ cut ((wd j).length - t)) → (∀ p ∈ ts' ++ base, p.1 ≠ x ∧ p.1 ≠ 134 ∧ p.1 ≠ 141 ∧ p.1 ≠ I) → Fr B L h' (put m (Str.ofString "taken") (.int (t : Nat) tt)) → News B L h' ((I, io) :: (x, pileO dx items' c') :: (134, tabO p1) :: (141, tabO p2) :: (ts' ++ base)) → Q .next ⟨h', g, d, tk', os⟩) :
    wpAny (M₁ w) A (exec (nthS turnB 5) (envL L)) Q (fun _ _ => False) ⟨h, g, d, tk, os⟩ := by
  obtain ⟨ah, ad, af, ag, au⟩ := A
  obtain rfl : ah = none := hh
  have hdd : ad + 20 < recursionLimit := hd
  have hjl : (wd j).length ≤ 21 := by
    have l : ∀ K : Fin 7, (wd K).length ≤ 21 := by decide +kernel
    exact l ⟨j, by omega⟩
  have hmem : ∀ {q : Addr × Obj} {a b c' d' : Addr × Obj}, q ∈ base → q ∈ a :: b :: c' :: d' :: (ts ++ base) := fun h => .tail _ (.tail _ (.tail _ (.tail _ (List.mem_append.mpr (.inr h)))))
  -- the number that tells how many are taken
  have hk : (4 + ((i : Int).fdiv 2).fmod 6).toNat < 10 ∧ 0 ≤ 4 + ((i : Int).fdiv 2).fmod 6 ∧ 4 + ((i : Int).fdiv 2).fmod 6 < 10 := by
    have z : ∀ i : Fin 31, (4 + ((i.1 : Int).fdiv 2).fmod 6).toNat < 10 ∧ 0 ≤ 4 + ((i.1 : Int).fdiv 2).fmod 6 ∧ 4 + ((i.1 : Int).fdiv 2).fmod 6 < 10 := by decide +kernel
    exact z ⟨i, by omega⟩
  obtain ⟨hk1, hk2, hk3⟩ := hk
  have hvl := hnum.ten
  obtain ⟨tv, hnv⟩ := hnum.areInts.get _ _ (List.getElem?_eq_getElem (show (4 + ((i : Int).fdiv 2).fmod 6).toNat < vals.length by omega))
  have hvb := hnum.bound _ (List.getElem_mem (show (4 + ((i : Int).fdiv 2).fmod 6).toNat < vals.length by omega))
  generalize vals[(4 + ((i : Int).fdiv 2).fmod 6).toNat]'(by omega) = nv at *
  have hwl : ((txt (wd j)).length : Int) = (wd j).length := by rw [txt_len]
  have hf0 : 0 ≤ nv.fmod lim := Int.fmod_nonneg (by omega) (by omega)
  have hf1 : nv.fmod lim < lim := Int.fmod_lt_of_pos _ (by omega)
  show wpAny _ _ (exec (Stmt.If (.UnaryOp _ _ _) _ _ _) _) _ _ _
  repeat' (first | ((with_reducible show wpAny _ _ (eval (.Name _ _) _) _ _ _); refine' ld (by assumption) ?hv ?_; (case hv => first | exact rfl | assumption)) | ((with_reducible show wpAny _ _ (loadName _ _) _ _ _); refine' ldn (by assumption) ?hv ?_; (case hv => first | exact rfl | assumption)) | ((with_reducible show wpAny _ _ (subscriptTail _ _ (Value.ref Nm) _) _ _ _); refine item_pos (us := vs) N (hmem hNm) hnv (by omega) (by omega) ?_) | ((with_reducible show wpAny _ _ (getMethod (Value.ref Wd) _ _) _ _ _); refine' kf_method ?N ?mm PySem.F.slot_list_index PySem.F.type_list_index ?_; (case N => assumption); (case mm => exact hmem hW)) | ((with_reducible show wpAny _ _ (call (Value.builtin "list.index") _) _ _ _); refine index_words (j := j) (K := K) (us := us) ⟨_, (‹News _ _ _ _› _ (hmem hW)).1, rfl, _, rfl⟩ hus hK hjK ?_) | ((fail_if_success (with_reducible show wpAny _ _ (subscriptTail _ _ (Value.ref Wd) _) _ _ _)); k_unfold; (try dsimp only)) | ((fail_if_success (with_reducible show wpAny _ _ (subscriptTail _ _ (Value.ref Wd) _) _ _ _)); walk1; (try dsimp only)) | (dsimp only; (fail_if_success (with_reducible show wpAny _ _ (subscriptTail _ _ (Value.ref Wd) _) _ _ _)); walk1))
  rename_i h₁ F' N'
  obtain ⟨t, ht⟩ := Int.eq_ofNat_of_zero_le (show 0 ≤ 1 + nv.fmod lim by omega)
  rw [ht] at F'
  have htl : 1 ≤ t ∧ t ≤ lim := by constructor <;> omega
  have F₂ := F'.push { cls := .type "slice", data := .fields #[.none, .int j tk, .none] }
  have N₂ := N'.push F' { cls := .type "slice", data := .fields #[.none, .int j tk, .none] }
  have z100 : 100 ≤ sizeLine := by decide
  have hul : us.length = K + 1 := by rw [hus.1, wds_len]
  refine sub_upto (l := Wd) (items := us.toArray) (k := j) ⟨_, (N₂ _ (.tail _ (hmem hW))).1, rfl, _, rfl⟩ ⟨_, (N₂ _ (.head _)).1, rfl, rfl⟩ (by simp only [List.size_toArray]; omega) ?_
  have F₃ := F₂.push (W.listOf (us.toArray.toList.take j).toArray 0)
  have N₃ := N₂.push F₂ (W.listOf (us.toArray.toList.take j).toArray 0)
  have hDlt : ∀ p ∈ (I, io) :: (x, pileO dx items c) :: (134, tabO p1) :: (141, tabO p2) :: (ts ++ base), p.1 < (h₁.push { cls := .type "slice", data := .fields #[.none, .int j tk, .none] }).objs.size := fun p hp => Heap.lt_size (N₂ p (.tail _ hp)).1
  generalize (h₁.push { cls := .type "slice", data := .fields #[.none, .int j tk, .none] }).objs.size = D at *
  generalize ((h₁.push { cls := .type "slice", data := .fields #[.none, .int j tk, .none] }).push (W.listOf (us.toArray.toList.take j).toArray 0)) = h₃ at *
  dsimp only
  have hxx : D ≠ x := Nat.ne_of_gt (hDlt _ (.tail _ (.head _)))
  have hxD : ∀ p ∈ ts ++ (D, W.listOf (us.toArray.toList.take j).toArray 0) :: (I, io) :: (134, tabO p1) :: (141, tabO p2) :: base, p.1 ≠ x := by
    intro p hp
    rcases List.mem_append.mp hp with hp | _ | ⟨_, _ | ⟨_, _ | ⟨_, _ | ⟨_, hp⟩⟩⟩⟩
    · exact (AP.rest p (List.mem_append.mpr (.inl hp))).1
    · exact hxx
    · exact AP.Ix
    · exact fun e => AP.x134 e.symm
    · exact fun e => AP.x141 e.symm
    · exact (AP.rest p (List.mem_append.mpr (.inr hp))).1
  replace N₃ : News B L h₃ ((x, pileO dx items c) :: (ts ++ (D, W.listOf (us.toArray.toList.take j).toArray 0) :: (I, io) :: (134, tabO p1) :: (141, tabO p2) :: base)) := by
    refine all_cons ?_ (fun p hp => ?_)
    · exact N₃ _ (.tail _ (.tail _ (.tail _ (.head _))))
    rcases List.mem_append.mp hp with hp | _ | ⟨_, _ | ⟨_, _ | ⟨_, _ | ⟨_, hp⟩⟩⟩⟩
    · exact N₃ _ (.tail _ (.tail _ (.tail _ (.tail _ (.tail _ (.tail _ (List.mem_append.mpr (.inl hp))))))))
    · exact N₃ _ (.head _)
    · exact N₃ _ (.tail _ (.tail _ (.head _)))
    · exact N₃ _ (.tail _ (.tail _ (.tail _ (.tail _ (.head _)))))
    · exact N₃ _ (.tail _ (.tail _ (.tail _ (.tail _ (.tail _ (.head _))))))
    · exact N₃ _ (.tail _ (.tail _ (.tail _ (.tail _ (.tail _ (.tail _ (List.mem_append.mpr (.inr hp))))))))
  clear N' F' N₂ F₂ hDlt
  have hwl5 : (txt (wd j)).length = (wd j).length := txt_len _
  repeat' (first | ((with_reducible show wpAny _ _ (eval (.Name _ _) _) _ _ _); refine' ld (by assumption) ?hv ?_; (case hv => first | exact rfl | assumption)) | ((with_reducible show wpAny _ _ (loadName _ _) _ _ _); refine' ldn (by assumption) ?hv ?_; (case hv => first | exact rfl | assumption)) | ((fail_if_success (with_reducible show wpAny _ _ (call (Value.ref 211) _) _ _ _)); k_unfold; (try dsimp only)) | ((fail_if_success (with_reducible show wpAny _ _ (call (Value.ref 211) _) _ _ _)); walk1; (try dsimp only)) | (dsimp only; (fail_if_success (with_reducible show wpAny _ _ (call (Value.ref 211) _) _ _ _)); walk1))
  rename_i h₄ t' k' F₄ N₄ hsl
  rw [hwl5, slice_txt_to (l := wd j) (j := ((wd j).length : Int) - t) (by omega) (by omega), show (((wd j).length : Int) - t).toNat = (wd j).length - t by omega]
  refine spec_lay (us := us.take j) (ws := wds (j - 1)) (ts := ts) (base := (D, W.listOf (us.toArray.toList.take j).toArray 0) :: (I, io) :: (134, tabO p1) :: (141, tabO p2) :: base) (ps := cut ((wd j).length - t)) T X F₄ N₄ hxD (.tail _ (.tail _ (.tail _ (.tail _ h2)))) (.head _) (hus.front ⟨hj1, hjK⟩) O htup (by show ad + 10 < _; omega) rfl (lay_word ⟨hj1, by omega⟩ (by omega)) (wds_ok _ (by omega)) (by rw [wds_len]; omega) (by rw [List.length_take]; omega) hps ?_
  intro h₇ tk₇ items' c' ts' htup' hx' hts' F₇ N₇
  repeat' (first | ((with_reducible show wpAny _ _ (eval (.Name _ _) _) _ _ _); refine' ld (by assumption) ?hv ?_; (case hv => first | exact rfl | assumption)) | ((with_reducible show wpAny _ _ (loadName _ _) _ _ _); refine' ldn (by assumption) ?hv ?_; (case hv => first | exact rfl | assumption)) | (k_unfold; (try dsimp only)) | (walk1; (try dsimp only)) | (dsimp only; walk1))
  obtain ⟨ts₂, htup₂, hts₂⟩ := htup'.tight
  have hin : ∀ p ∈ ts₂, p ∈ (x, pileO dx items' c') :: (ts' ++ (D, W.listOf (us.toArray.toList.take j).toArray 0) :: (I, io) :: (134, tabO p1) :: (141, tabO p2) :: base) := fun p hp => .tail _ (List.mem_append.mpr (.inl (hts₂ p hp).1))
  have hI : (I, io) ∈ (x, pileO dx items' c') :: (ts' ++ (D, W.listOf (us.toArray.toList.take j).toArray 0) :: (I, io) :: (134, tabO p1) :: (141, tabO p2) :: base) := .tail _ (List.mem_append.mpr (.inr (.tail _ (.head _))))
  have h134 : (134, tabO p1) ∈ (x, pileO dx items' c') :: (ts' ++ (D, W.listOf (us.toArray.toList.take j).toArray 0) :: (I, io) :: (134, tabO p1) :: (141, tabO p2) :: base) := .tail _ (List.mem_append.mpr (.inr (.tail _ (.tail _ (.head _)))))
  have h141 : (141, tabO p2) ∈ (x, pileO dx items' c') :: (ts' ++ (D, W.listOf (us.toArray.toList.take j).toArray 0) :: (I, io) :: (134, tabO p1) :: (141, tabO p2) :: base) := .tail _ (List.mem_append.mpr (.inr (.tail _ (.tail _ (.tail _ (.head _))))))
  refine hQ h₇ _ items' c' ts₂ t _ htl.1 htl.2 htup₂ ?_ F₇ ?_
  · intro p hp
    rcases List.mem_append.mp hp with hp | hp
    · have hcls := (hts₂ p hp).2
      refine ⟨hx' p (List.mem_append.mpr (.inl (hts₂ p hp).1)), ?_, ?_, ?_⟩
      · exact News.apart N₇ (hin p hp) h134 (by rw [hcls]; intro e; cases e)
      · exact News.apart N₇ (hin p hp) h141 (by rw [hcls]; intro e; cases e)
      · refine News.apart N₇ (hin p hp) hI ?_
        rw [hcls]
        intro e
        have e2 : Value.type "tuple" = Value.type "range_iterator" := e.trans hio
        injection e2 with e3
        exact absurd e3 (by decide)
    · exact AP.rest p (List.mem_append.mpr (.inr hp))
  · refine all_cons ?_ (all_cons ?_ (all_cons ?_ (all_cons ?_ (fun p hp => ?_))))
    · exact N₇ _ hI
    · exact N₇ _ (.head _)
    · exact N₇ _ h134
    · exact N₇ _ h141
    · rcases List.mem_append.mp hp with hp | hp
      · exact N₇ p (hin p hp)
      · exact N₇ _ (.tail _ (List.mem_append.mpr (.inr (.tail _ (.tail _ (.tail _ (.tail _ hp)))))))
end Mine
set_option maxRecDepth 100000
set_option maxHeartbeats 2000000
namespace Mine
open PySem PySem.W PySem.Calls PyProof.Rows

theorem filledLaw10e (P : Params) : PySem.Challenge.rw_wr0051_01 = PySem.Challenge.rw_wr0051_01 ∧ KK P = KK P := by k_fill; exact ⟨rfl, rfl⟩
theorem sz_sum (n r : Nat) : n - r + min n r = n := by
  rcases Nat.le_total r n with h | h
  · rw [Nat.min_eq_right h]; exact Nat.sub_add_cancel h
  · rw [Nat.min_eq_left h, Nat.sub_eq_zero_of_le h, Nat.zero_add]
theorem sz_cut (t l r : Nat) : t + l - r - t = l - r ∧ min (t + l) r - (t - (t + l - r)) = min l r := by
  refine ⟨by rw [Nat.sub_right_comm, Nat.add_sub_cancel_left], ?_⟩
  rcases Nat.le_total r l with h | h
  · obtain ⟨c, rfl⟩ := Nat.exists_eq_add_of_le h
    rw [Nat.min_eq_right h, Nat.min_eq_right (Nat.le_trans h (Nat.le_add_left _ _)), Nat.add_left_comm t r c, Nat.add_sub_cancel_left, Nat.sub_eq_zero_of_le (Nat.le_add_right t c), Nat.sub_zero]
  · obtain ⟨c, rfl⟩ := Nat.exists_eq_add_of_le h
    rw [Nat.min_eq_left h, Nat.add_comm t l, Nat.add_sub_add_left, Nat.add_min_add_left]
    rcases Nat.le_total t c with h' | h'
    · rw [Nat.sub_eq_zero_of_le h', Nat.min_eq_left h', Nat.sub_zero, Nat.add_sub_cancel]
    · rw [Nat.min_eq_right h', Nat.sub_sub_self h', Nat.add_sub_cancel]
theorem max_nat (l r : Nat) {x : Int} (hx : x = (l : Int) - r) : (if x > 0 then x else 0).toNat = l - r := by
  subst hx
  split
  · exact Int.toNat_sub l r
  · rename_i h
    rw [Nat.sub_eq_zero_of_le (Int.ofNat_le.mp (Int.le_of_sub_nonpos (Int.not_lt.mp h)))]; rfl
theorem min_nat (l r : Nat) {x y : Int} (hx : x = r) (hy : y = l) : (if x < y then x else y).toNat = min l r := by
  subst hx hy
  split
  · rename_i h
    rw [Nat.min_eq_right (Int.ofNat_le.mp (Int.le_of_lt h))]; rfl
  · rename_i h
    rw [Nat.min_eq_left (Int.ofNat_le.mp (Int.not_lt.mp h))]; rfl
noncomputable def eNames : List Str := [Str.ofString "left", Str.ofString "heap", Str.ofString "limit", Str.ofString "popper"]
theorem ta6 {w : World} {mean : ExcName → Option Value} {mg mb : Str → Option Value} {B : Heap} (T : Top₁ mean mg mb B) (X : (KK w.params).In B)
    {A : Around} {L : Addr} {h : Heap} {g : Array GenState} {d : Drawn} {tk total ahead left t : Nat} {b : Bool} {os : OsState} {news : List (Addr × Obj)} {m : Str → Option Value} {t1 t2 t3 t4 t5 : Tok} {Q : Flow → Shared → Prop}
    (F : Fr B L h m) (N : News B L h news)
    (hm1 : m (Str.ofString "left") = some (.int left t1)) (hm2 : m (Str.ofString "taken") = some (.int t t2)) (hm3 : m (Str.ofString "heap") = some (.str (heapS (ahead + left - total) (min left (total - ahead))) t3)) (hm4 : m (Str.ofString "ahead") = some (.int ahead t4)) (hm5 : m (Str.ofString "total") = some (.int total t5)) (hm6 : m (Str.ofString "popper") = some (.bool b))
    (ht : t ≤ left) (hl : left ≤ total) (ha : ahead ≤ total) (ht21 : total ≤ 21) (hd : A.depth + 20 < recursionLimit) (hh : A.handled = none)
    (hQ : ∀ h' tk' m' ta tb tc, Agree eNames m' m → m' (Str.ofString "left") = some (.int (left - t : Nat) ta) → m' (Str.ofString "heap") = some (.str (heapS (ahead + (left - t) - total) (min (left - t) (total - ahead))) tb) → m' (Str.ofString "limit") = some (.int (2 * t : Nat) tc) → m' (Str.ofString "popper") = some (.bool (!b)) → Fr B L h' m' → News B L h' news → Q .next ⟨h', g, d, tk', os⟩) :
    wpAny (M₁ w) A (execs (turnB.drop 6) (envL L)) Q (fun _ _ => False) ⟨h, g, d, tk, os⟩ := by
  obtain ⟨ah, ad, af, ag, au⟩ := A
  obtain rfl : ah = none := hh
  have hdd : ad + 20 < recursionLimit := hd
  obtain ⟨r, rfl⟩ := Nat.exists_eq_add_of_le ha
  obtain ⟨l, rfl⟩ := Nat.exists_eq_add_of_le ht
  rw [Nat.add_sub_add_left, Nat.add_sub_cancel_left] at hm3
  rw [Nat.add_sub_cancel_left, Nat.add_sub_cancel_left, Nat.add_sub_add_left] at hQ
  have e1 : heapS (t + l - r - t) (min (t + l) r - (t - (t + l - r))) = heapS (l - r) (min l r) := by
    rw [(sz_cut t l r).1, (sz_cut t l r).2]
  have hs := sz_sum (t + l) r
  have hs1 : t ≤ t + l - r + min (t + l) r := by rw [hs]; exact Nat.le_add_right _ _
  have hs2 : t + l - r + min (t + l) r ≤ 100 := by rw [hs]; exact Nat.le_trans hl (Nat.le_trans ht21 (by decide))
  have f1 : ((t + l : Nat) : Int) - t = l := by rw [Int.natCast_add, Int.add_comm]; exact Int.add_sub_cancel _ _
  have f2 : ((ahead + r : Nat) : Int) - ahead = r := by rw [Int.natCast_add, Int.add_comm]; exact Int.add_sub_cancel _ _
  have e2 : (if (ahead : Int) - (ahead + r : Nat) + ((t + l : Nat) - t) > 0 then (ahead : Int) - (ahead + r : Nat) + ((t + l : Nat) - t) else 0).toNat = l - r := max_nat l r (by rw [f1]; clear hs hs1 hs2 f1 f2 e1 hl ht21 ha ht hd hdd; omega)
  have e3 : (if ((ahead + r : Nat) : Int) - ahead < (t + l : Nat) - t then ((ahead + r : Nat) : Int) - ahead else (t + l : Nat) - t).toNat = min l r := min_nat l r f2 f1
  show wpAny _ _ (execs [Stmt.AugAssign _ _ _ _, Stmt.Assign _ _ _, Stmt.If _ _ _ _, Stmt.Assign _ _ _] _) _ _ _
  repeat' (first | ((with_reducible show wpAny _ _ (eval (.Name _ _) _) _ _ _); refine' ld (by assumption) ?hv ?_; (case hv => first | exact rfl | assumption)) | ((with_reducible show wpAny _ _ (loadName _ _) _ _ _); refine' ldn (by assumption) ?hv ?_; (case hv => first | exact rfl | assumption)) | ((with_reducible show wpAny _ _ (call (Value.ref 190) _) _ _ _); refine spec_strip (a := t + l - r) (b := min (t + l) r) (k := t) T X (by assumption) (by assumption) (Nat.lt_of_le_of_lt (Nat.le_add_right ad 20) hdd) rfl hs1 hs2 ?_; intro h₁ tk₁ tH F₁ N₁) | (k_unfold; (try dsimp only)) | (walk1; (try dsimp only)) | (dsimp only; walk1))
  · rename_i hne
    rw [heap_text, e1, e2, e3, bne_self_eq_false'] at hne
    cases hne
  · rename_i F' N'
    rw [e1, f1, show 2 * (t : Int) = ((2 * t : Nat) : Int) from rfl] at F'
    exact hQ _ _ _ _ _ _ (((((Agree.refl eNames m).put (x := Str.ofString "left") (by decide)).put (x := Str.ofString "heap") (by decide)).put (x := Str.ofString "popper") (by decide)).put (x := Str.ofString "limit") (by decide)) rfl rfl rfl rfl F' fun p hp => N' p (.tail _ hp)
end Mine
set_option maxRecDepth 100000
set_option maxHeartbeats 2000000
namespace Mine
open PySem PySem.W PySem.Calls PyProof.Rows

theorem filledLaw10f (P : Params) : PySem.Challenge.rw_wr0051_01 = PySem.Challenge.rw_wr0051_01 ∧ KK P = KK P := by k_fill; exact ⟨rfl, rfl⟩
noncomputable def wtNames : List Str := [Str.ofString "word", Str.ofString "taken"]
theorem ta25 {w : World} {mean : ExcName → Option Value} {mg mb : Str → Option Value} {B : Heap} (T : Top₁ mean mg mb B) (X : (KK w.params).In B)
    {A : Around} {L x dx I Wd Nm : Addr} {h : Heap} {g : Array GenState} {d : Drawn} {tk K left lim i c cw cn : Nat} {pop : Bool} {os : OsState} {io od : Obj} {fv : Value} {items p1 p2 : Array Value} {ts base : List (Addr × Obj)} {m : Str → Option Value} {t0 t1 t2 : Tok} {us vs : List Value} {vals : List Int} {Q : Flow → Shared → Prop}
    (F : Fr B L h m) (N : News B L h ((I, io) :: (x, pileO dx items c) :: (134, tabO p1) :: (141, tabO p2) :: (ts ++ base))) (AP : Apart x I (ts ++ base)) (h2 : (dx, od) ∈ base) (hW : (Wd, W.listOf us.toArray cw) ∈ base) (hNm : (Nm, W.listOf vs.toArray cn) ∈ base) (hus : StrsTxt us (wds K)) (hnum : Nums vs vals 100000000) (O : Own od fv) (htup : Tup items ts (cut left))
    (hm1 : m (Str.ofString "pile") = some (.ref x)) (hm2 : m (Str.ofString "words") = some (.ref Wd)) (hm3 : m (Str.ofString "numbers") = some (.ref Nm)) (hm4 : m (Str.ofString "turn") = some (.int i t1)) (hm5 : m (Str.ofString "limit") = some (.int lim t2)) (hm6 : m (Str.ofString "left") = some (.int left t0)) (hm7 : m (Str.ofString "popper") = some (.bool pop))
    (hio : io.cls = .type "range_iterator") (hK : K ≤ 6) (hl1 : 1 ≤ left) (hl21 : left ≤ 21) (hlK : left ≤ (wd K).length) (hlim : 1 ≤ lim) (hpop : pop = decide (lastP left ≤ lim)) (hi : i ≤ 30) (hd : A.depth + 20 < recursionLimit) (hu : A.units + 64 < cLine) (hh : A.handled = none)
    (hQ : ∀ h' tk' m' items' c' ts' t tt, 1 ≤ t → t ≤ left → Tup items' ts' (cut (left - t)) → (∀ p ∈ ts' ++ base, p.1 ≠ x ∧ p.1 ≠ 134 ∧ p.1 ≠ 141 ∧ p.1 ≠ I) → (1 ≤ left - t → (!pop) = decide (lastP (left - t) ≤ (2 * t : Nat))) → (left - t = 0 → (!pop) = false) → Agree wtNames m' m → m' (Str.ofString "taken") = some (.int (t : Nat) tt) → Fr B L h' m' → News B L h' ((I, io) :: (x, pileO dx items' c') :: (134, tabO p1) :: (141, tabO p2) :: (ts' ++ base)) → wpAny (M₁ w) A (execs (turnB.drop 6) (envL L)) Q (fun _ _ => False) ⟨h', g, d, tk', os⟩) :
    wpAny (M₁ w) A (execs (turnB.drop 1) (envL L)) Q (fun _ _ => False) ⟨h, g, d, tk, os⟩ := by
  obtain ⟨ah, ad, af, ag, au⟩ := A
  obtain rfl : ah = none := hh
  have hdd : ad + 20 < recursionLimit := hd
  obtain ⟨f1, f2, f3, f4, f5, f6⟩ := turn_facts ⟨hl1, hl21⟩
  have hjK := jOf_le hK hl1 hlK
  have hcs := cut_small hl21
  have hjl : (wd (jOf left)).length ≤ 21 := by omega
  have hw1 := wd_len_pos (jOf left)
  rw [f1] at htup
  obtain ⟨its, T₀, ta, tb, rfl, htup2, hT₀⟩ := htup.last
  have hils : its.size ≤ 8 := by
    rw [htup2.1, List.length_dropLast]; omega
  generalize hj : jOf left = j at *
  -- statement 1
  rw [show turnB.drop 1 = nthS turnB 1 :: turnB.drop 2 from rfl]
  refine execs_cut (R := fun s' => ∃ h' tk', s' = ⟨h', g, d, tk', os⟩ ∧ Fr B L h' m ∧ News B L h' ((I, io) :: (x, pileO dx (its.push (.ref T₀)) c) :: (134, tabO p1) :: (141, tabO p2) :: (ts ++ base))) ?_ ?_
  · intro Q₁ hQ₁
    show wpAny _ _ (exec (Stmt.If _ _ _ _) _) _ _ _
    repeat' (first | ((with_reducible show wpAny _ _ (eval (.Name _ _) _) _ _ _); refine' ld (by assumption) ?hv ?_; (case hv => first | exact rfl | assumption)) | ((with_reducible show wpAny _ _ (loadName _ _) _ _ _); refine' ldn (by assumption) ?hv ?_; (case hv => first | exact rfl | assumption)) | (k_unfold; (try dsimp only)) | (walk1; (try dsimp only)) | (dsimp only; walk1))
    all_goals first | omega | exact hQ₁ _ ⟨_, _, rfl, by assumption, by assumption⟩
  clear F N
  rintro s' ⟨h₁, tk₁, rfl, F, N⟩
  -- statement 2
  rw [show turnB.drop 2 = nthS turnB 2 :: turnB.drop 3 from rfl]
  refine execs_cut (R := fun s' => ∃ h' tk' tw, s' = ⟨h', g, d, tk', os⟩ ∧ Fr B L h' (put m (Str.ofString "word") (.str (txt (wd j)) tw)) ∧ News B L h' ((I, io) :: (x, pileO dx its (c + 1)) :: (134, tabO p1) :: (141, tabO p2) :: (ts ++ base))) ?_ ?_
  · intro Q₁ hQ₁
    exact ta2 T X F N AP (List.mem_append.mpr (.inr h2)) (List.mem_append.mpr (.inl hT₀)) O hm1 (by omega) (by omega) hd rfl fun h' tk' tw F' N' => hQ₁ _ ⟨h', tk', tw, rfl, F', N'⟩
  clear F N
  rintro s' ⟨h₂, tk₂, tw, rfl, F, N⟩
  have hag2 : Agree wtNames (put m (Str.ofString "word") (.str (txt (wd j)) tw)) m := (Agree.refl _ _).put (by decide)
  have hwd2 : put m (Str.ofString "word") (.str (txt (wd j)) tw) (Str.ofString "word") = some (.str (txt (wd j)) tw) := rfl
  generalize put m (Str.ofString "word") (.str (txt (wd j)) tw) = m₂ at *
  have q1 : m₂ (Str.ofString "limit") = some (.int lim t2) := (hag2 _ (by decide)).trans hm5
  have q2 : m₂ (Str.ofString "popper") = some (.bool pop) := (hag2 _ (by decide)).trans hm7
  have hwl : (txt (wd j)).length = (wd j).length := txt_len _
  have hpop2 : pop = decide (((txt (wd j)).length : Int) ≤ lim) := by rw [hpop, hwl, f2]
  -- statement 3
  rw [show turnB.drop 3 = nthS turnB 3 :: turnB.drop 4 from rfl]
  refine execs_cut (R := fun s' => ∃ tk', s' = ⟨h₂, g, d, tk', os⟩) ?_ ?_
  · intro Q₁ hQ₁
    rw [hpop2] at q2
    show wpAny _ _ (exec (Stmt.If _ _ _ _) _) _ _ _
    repeat' (first | ((with_reducible show wpAny _ _ (eval (.Name _ _) _) _ _ _); refine' ld (by assumption) ?hv ?_; (case hv => first | exact rfl | assumption)) | ((with_reducible show wpAny _ _ (loadName _ _) _ _ _); refine' ldn (by assumption) ?hv ?_; (case hv => first | exact rfl | assumption)) | (k_unfold; (try dsimp only)) | (walk1; (try dsimp only)) | (dsimp only; walk1))
    · rename_i hc
      rw [bne_self_eq_false'] at hc; cases hc
    · exact hQ₁ _ ⟨_, rfl⟩
  rintro s' ⟨tk₃, rfl⟩
  -- statement 4
  rw [show turnB.drop 4 = nthS turnB 4 :: turnB.drop 5 from rfl]
  refine execs_cut (R := fun s' => ∃ h' tk' tt, s' = ⟨h', g, d, tk', os⟩ ∧ Fr B L h' (put m₂ (Str.ofString "taken") (.int ((wd j).length : Nat) tt)) ∧ News B L h' ((I, io) :: (x, pileO dx its (c + 1)) :: (134, tabO p1) :: (141, tabO p2) :: (ts ++ base))) ?_ ?_
  · intro Q₁ hQ₁
    show wpAny _ _ (exec (Stmt.Assign _ _ _) _) _ _ _
    repeat' (first | ((with_reducible show wpAny _ _ (eval (.Name _ _) _) _ _ _); refine' ld (by assumption) ?hv ?_; (case hv => first | exact rfl | assumption)) | ((with_reducible show wpAny _ _ (loadName _ _) _ _ _); refine' ldn (by assumption) ?hv ?_; (case hv => first | exact rfl | assumption)) | (k_unfold; (try dsimp only)) | (walk1; (try dsimp only)) | (dsimp only; walk1))
    rename_i F' N'
    rw [hwl] at F'
    exact hQ₁ _ ⟨_, _, _, rfl, F', N'⟩
  clear F N
  rintro s' ⟨h₄, tk₄, tt, rfl, F, N⟩
  have hag3 : Agree wtNames (put m₂ (Str.ofString "taken") (.int ((wd j).length : Nat) tt)) m := hag2.put (by decide)
  have hwd3 : put m₂ (Str.ofString "taken") (.int ((wd j).length : Nat) tt) (Str.ofString "word") = some (.str (txt (wd j)) tw) := hwd2
  have htk3 : put m₂ (Str.ofString "taken") (.int ((wd j).length : Nat) tt) (Str.ofString "taken") = some (.int ((wd j).length : Nat) tt) := rfl
  generalize put m₂ (Str.ofString "taken") (.int ((wd j).length : Nat) tt) = m₃ at *
  have q2' : m₃ (Str.ofString "popper") = some (.bool pop) := (hag3 _ (by decide)).trans hm7
  -- statement 5
  rw [show turnB.drop 5 = nthS turnB 5 :: turnB.drop 6 from rfl]
  cases hb : pop with
  | true =>
    rw [hb] at q2' hpop
    refine execs_cut (R := fun s' => ∃ tk', s' = ⟨h₄, g, d, tk', os⟩) ?_ ?_
    · intro Q₁ hQ₁
      show wpAny _ _ (exec (Stmt.If _ _ _ _) _) _ _ _
      repeat' (first | ((with_reducible show wpAny _ _ (eval (.Name _ _) _) _ _ _); refine' ld (by assumption) ?hv ?_; (case hv => first | exact rfl | assumption)) | ((with_reducible show wpAny _ _ (loadName _ _) _ _ _); refine' ldn (by assumption) ?hv ?_; (case hv => first | exact rfl | assumption)) | (k_unfold; (try dsimp only)) | (walk1; (try dsimp only)) | (dsimp only; walk1))
      exact hQ₁ _ ⟨_, rfl⟩
    rintro s' ⟨tk₅, rfl⟩
    refine hQ h₄ tk₅ m₃ its (c + 1) ts (wd j).length tt hw1 f4 (by rw [← f5]; exact htup2) AP.rest ?_ ?_ hag3 htk3 F N
    · intro hp
      rw [hb]
      have := f6 hp
      exact (decide_eq_false (by omega)).symm
    · intro _; rw [hb]; rfl
  | false =>
    rw [hb] at q2' hpop
    have hgt : ¬ lastP left ≤ lim := of_decide_eq_false hpop.symm
    refine execs_cut (R := fun s' => ∃ h' tk' items' c' ts' t tt', s' = ⟨h', g, d, tk', os⟩ ∧ 1 ≤ t ∧ t ≤ lim ∧ Tup items' ts' ((cut left).dropLast ++ cut ((wd j).length - t)) ∧ (∀ p ∈ ts' ++ base, p.1 ≠ x ∧ p.1 ≠ 134 ∧ p.1 ≠ 141 ∧ p.1 ≠ I) ∧ Fr B L h' (put m₃ (Str.ofString "taken") (.int (t : Nat) tt')) ∧ News B L h' ((I, io) :: (x, pileO dx items' c') :: (134, tabO p1) :: (141, tabO p2) :: (ts' ++ base))) ?_ ?_
    · intro Q₁ hQ₁
      have hj1 : 1 ≤ j := by
        rcases Nat.eq_zero_or_pos j with h0 | h0
        · subst h0
          have : (wd 0).length = 1 := rfl
          omega
        · exact h0
      exact ta5 (t4 := tw) T X F N AP h2 hW hNm hus hnum O htup2 ((hag3 _ (by decide)).trans hm1) ((hag3 _ (by decide)).trans hm2) ((hag3 _ (by decide)).trans hm3) ((hag3 _ (by decide)).trans hm4) ((hag3 _ (by decide)).trans hm5) hwd3 q2' hio hK hjK hj1 hlim (by omega) hi (by rw [List.length_dropLast]; omega) hd hu rfl
        fun h' tk' items' c' ts' t tt' a1 a2 a3 a4 F' N' => hQ₁ _ ⟨h', tk', items', c', ts', t, tt', rfl, a1, a2, a3, a4, F', N'⟩
    rintro s' ⟨h₅, tk₅, items', c', ts', t, tt', rfl, a1, a2, a3, a4, F', N'⟩
    have htw : 1 ≤ t ∧ t < (wd (jOf left)).length := by rw [hj]; omega
    obtain ⟨o1, o2, o3⟩ := other_facts ⟨hl1, hl21⟩ htw
    rw [hj] at o2
    refine hQ h₅ tk₅ _ items' c' ts' t tt' a1 (by omega) (by rw [← o2]; exact a3) a4 ?_ ?_ (hag3.put (x := Str.ofString "taken") (by decide)) rfl F' N'
    · intro _; rw [hb]; exact (decide_eq_true (by omega)).symm
    · intro h0; omega
end Mine
set_option maxRecDepth 100000
set_option maxHeartbeats 2000000
namespace Mine
open PySem PySem.W PySem.Calls PyProof.Rows

theorem filledLaw10 (P : Params) : PySem.Challenge.rw_wr0051_01 = PySem.Challenge.rw_wr0051_01 ∧ KK P = KK P := by k_fill; exact ⟨rfl, rfl⟩
noncomputable def jNames : List Str := [Str.ofString "turn", Str.ofString "word", Str.ofString "taken", Str.ofString "left", Str.ofString "heap", Str.ofString "limit", Str.ofString "popper"]
theorem Agree.up {l l' : List Str} {a b c : Str → Option Value} (h : Agree l a b) (h' : Agree l' b c) (hs : ∀ y ∈ l, y ∈ l') : Agree l' a c := fun y hy => (h y fun z => hy (hs y z)).trans (h' y hy)
theorem News.apartO {B : Heap} {L : Addr} {h : Heap} {news : List (Addr × Obj)} (N : News B L h news) {p q : Addr × Obj} (hp : p ∈ news) (hq : q ∈ news) (hne : p.2 ≠ q.2) : p.1 ≠ q.1 := fun e => by
  have a := (N p hp).1
  rw [e, (N q hq).1] at a
  exact hne (Option.some.inj a).symm
theorem Own.notTab {od : Obj} {fv : Value} (O : Own od fv) (ps : Array Value) : od ≠ tabO ps := fun e => by
  have := O.push
  rw [e] at this
  cases this
theorem Own.notPile {od : Obj} {fv : Value} (O : Own od fv) (dx : Addr) (items : Array Value) (c : Nat) : od ≠ pileO dx items c := fun e => by
  have := O.push
  rw [e] at this
  cases this
theorem ph10 {w : World} {mean : ExcName → Option Value} {mg mb : Str → Option Value} {B : Heap} (T : Top₁ mean mg mb B) (X : (KK w.params).In B)
    {A : Around} {L x dx Wd Nm : Addr} {h : Heap} {g : Array GenState} {d : Drawn} {tk K total limit first ahead c cw cn : Nat} {os : OsState} {od : Obj} {items p1 p2 : Array Value} {nw0 : List (Addr × Obj)} {m : Str → Option Value} {t1 t2 t3 t4 t5 t6 t7 : Tok} {us vs : List Value} {vals : List Int} {Q : Flow → Shared → Prop}
    (F : Fr B L h m) (N : News B L h nw0) (hg : AllBare g) (hx : (x, pileO dx items c) ∈ nw0) (h134 : (134, tabO p1) ∈ nw0) (h141 : (141, tabO p2) ∈ nw0) (h2 : (dx, od) ∈ nw0) (hW : (Wd, W.listOf us.toArray cw) ∈ nw0) (hNm : (Nm, W.listOf vs.toArray cn) ∈ nw0) (hus : StrsTxt us (wds K)) (hnum : Nums vs vals 100000000) (O : Own od (.int first t7)) (htup : Tup items nw0 (cut total)) (hp1 : TabOk ⟨66, 19, 66, 63⟩ p1) (hp2 : TabOk ⟨69, 32, 69, 85⟩ p2)
    (hm1 : m (Str.ofString "pile") = some (.ref x)) (hm2 : m (Str.ofString "words") = some (.ref Wd)) (hm3 : m (Str.ofString "numbers") = some (.ref Nm)) (hm4 : m (Str.ofString "first") = some (.int first t1)) (hm5 : m (Str.ofString "total") = some (.int total t2)) (hm6 : m (Str.ofString "ahead") = some (.int ahead t3)) (hm7 : m (Str.ofString "left") = some (.int total t4)) (hm8 : m (Str.ofString "heap") = some (.str (heapS ahead (total - ahead)) t5)) (hm9 : m (Str.ofString "limit") = some (.int limit t6)) (hm10 : m (Str.ofString "popper") = some (.bool (decide (lastP total ≤ limit))))
    (hK : K ≤ 6) (htK : total ≤ (wd K).length) (ht1 : 1 ≤ total) (ht21 : total ≤ 21) (hlim : 1 ≤ limit) (hf2 : first ≤ 2) (hah : ahead ≤ total) (hd : A.depth + 20 < recursionLimit) (hu : A.units + 64 < cLine) (hh : A.handled = none)
    (hQ : ∀ h' g' tk' m' news' p1' p2', TabOk ⟨66, 19, 66, 63⟩ p1' → TabOk ⟨69, 32, 69, 85⟩ p2' → AllBare g' → Fr B L h' m' → News B L h' news' → (134, tabO p1') ∈ news' → (141, tabO p2') ∈ news' → Q (.ret (.bool true)) ⟨h', g', d, tk', os⟩) :
    wpAny (M₁ w) A (execs (lawS 13) (envL L)) Q (fun _ _ => False) ⟨h, g, d, tk, os⟩ := by
  obtain ⟨ah, ad, af, ag, au⟩ := A
  obtain rfl : ah = none := hh
  have hdd : ad + 20 < recursionLimit := hd
  obtain ⟨ts0, htup0, hts0⟩ := htup.tight
  have hx134 : x ≠ 134 := News.apartO N hx h134 (by intro e; cases e)
  have hx141 : x ≠ 141 := News.apartO N hx h141 (by intro e; cases e)
  obtain ⟨base, hbase⟩ : ∃ b, b = [(dx, od), (Wd, W.listOf us.toArray cw), (Nm, W.listOf vs.toArray cn)] := ⟨_, rfl⟩
  have b2 : (dx, od) ∈ base := by rw [hbase]; exact .head _
  have bW : (Wd, W.listOf us.toArray cw) ∈ base := by rw [hbase]; exact .tail _ (.head _)
  have bN : (Nm, W.listOf vs.toArray cn) ∈ base := by rw [hbase]; exact .tail _ (.tail _ (.head _))
  have hsub : ∀ p ∈ ts0 ++ base, p ∈ nw0 := by
    intro p hp
    rcases List.mem_append.mp hp with hp | hp
    · exact (hts0 p hp).1
    · rw [hbase] at hp
      rcases hp with _ | ⟨_, _ | ⟨_, _ | ⟨_, hp⟩⟩⟩
      · exact h2
      · exact hW
      · exact hNm
      · cases hp
  have hap : ∀ p ∈ ts0 ++ base, p.1 ≠ x ∧ p.1 ≠ 134 ∧ p.1 ≠ 141 := by
    intro p hp
    have hin := hsub p hp
    have key : p.2 ≠ pileO dx items c ∧ p.2 ≠ tabO p1 ∧ p.2 ≠ tabO p2 := by
      rcases List.mem_append.mp hp with hp | hp
      · have hc := (hts0 p hp).2
        refine ⟨?_, ?_, ?_⟩ <;> (intro e; rw [e] at hc; cases hc)
      · rw [hbase] at hp
        rcases hp with _ | ⟨_, _ | ⟨_, _ | ⟨_, hp⟩⟩⟩
        · exact ⟨O.notPile _ _ _, O.notTab _, O.notTab _⟩
        · refine ⟨?_, ?_, ?_⟩ <;> (intro e; cases e)
        · refine ⟨?_, ?_, ?_⟩ <;> (intro e; cases e)
        · cases hp
    exact ⟨News.apartO N hin hx key.1, News.apartO N hin h134 key.2.1, News.apartO N hin h141 key.2.2⟩
  clear hbase
  have N0 : News B L h ((x, pileO dx items c) :: (134, tabO p1) :: (141, tabO p2) :: (ts0 ++ base)) := by
    refine all_cons ?_ (all_cons ?_ (all_cons ?_ (fun p hp => ?_)))
    · exact N _ hx
    · exact N _ h134
    · exact N _ h141
    · exact N p (hsub p hp)
  clear N hsub htup hts0 hx h134 h141 h2 hW hNm
  rw [show lawS 13 = nthS (defBody (cell 20)) 13 :: lawS 14 from rfl]
  generalize hst : nthS (defBody (cell 20)) 13 = st
  refine execs_cutR (R := fun _ => False) ?_ fun _ z => z.elim
  intro Q₀ _ hret₀
  subst hst
  show wpAny _ _ (exec (Stmt.For (.Name _ _) _ turnB [] _) _) _ _ _
  refine for_genG B (by rfl) (by rfl) ?_
  repeat' (first | ((with_reducible show wpAny _ _ (eval (.Name _ _) _) _ _ _); refine' ld (by assumption) ?hv ?_; (case hv => first | exact rfl | assumption)) | ((with_reducible show wpAny _ _ (loadName _ _) _ _ _); refine' ldn (by assumption) ?hv ?_; (case hv => first | exact rfl | assumption)) | ((with_reducible show wpAny _ _ (call (Value.type "range") _) _ _ _); refine call_range_1 ?_; dsimp only) | ((fail_if_success (with_reducible show wpAny _ _ (pyIter _) _ _ _)); k_unfold; (try dsimp only)) | ((fail_if_success (with_reducible show wpAny _ _ (pyIter _) _ _ _)); walk1; (try dsimp only)) | (dsimp only; (fail_if_success (with_reducible show wpAny _ _ (pyIter _) _ _ _)); walk1))
  refine iter_range (n := total + 1) (fun i m' n' g' => ∃ items c ts p1 p2 left lim pop tl th tm, n' = (x, pileO dx items c) :: (134, tabO p1) :: (141, tabO p2) :: (ts ++ base) ∧ Tup items ts (cut left) ∧ (∀ p ∈ ts ++ base, p.1 ≠ x ∧ p.1 ≠ 134 ∧ p.1 ≠ 141) ∧ TabOk ⟨66, 19, 66, 63⟩ p1 ∧ TabOk ⟨69, 32, 69, 85⟩ p2 ∧ AllBare g' ∧ i + left ≤ total ∧ 1 ≤ lim ∧ (1 ≤ left → pop = decide (lastP left ≤ (lim : Nat))) ∧ (left = 0 → pop = false) ∧ m' (Str.ofString "left") = some (.int (left : Nat) tl) ∧ m' (Str.ofString "heap") = some (.str (heapS (ahead + left - total) (min left (total - ahead))) th) ∧ m' (Str.ofString "limit") = some (.int (lim : Nat) tm) ∧ m' (Str.ofString "popper") = some (.bool pop) ∧ Agree jNames m' m) F N0 rfl (by omega) ?_ ?_ ?_
  · refine ⟨items, c, ts0, p1, p2, total, limit, decide (lastP total ≤ limit), t4, t5, t6, rfl, htup0, hap, hp1, hp2, hg, by omega, hlim, fun _ => rfl, fun h0 => by omega, hm7, ?_, hm9, hm10, Agree.refl _ _⟩
    rw [hm8, show ahead + total - total = ahead by omega, show min total (total - ahead) = total - ahead by omega]
  · clear F N0 htup0 hap hp1 hp2 hg hm7 hm8 hm9 hm10
    rintro I io i ti m₁ news₁ h₁ tk₁ g₁ Q₁ hio hi ⟨items, c, ts, p1, p2, left, lim, pop, tl, th, tm, rfl, htup, hap, hp1, hp2, hg, hil, hlim, hpo, hpz, q1, q2, q3, q4, hag⟩ hne hI F N hnext hret
    have AP : Apart x I (ts ++ base) := ⟨hx134, hx141, Nat.ne_of_gt (hI _ (.tail _ (.head _))), Nat.ne_of_gt (hI _ (.tail _ (.tail _ (.head _)))), fun e => hne _ (.head _) e.symm, fun p hp => ⟨(hap p hp).1, (hap p hp).2.1, (hap p hp).2.2, hne p (.tail _ (.tail _ (.tail _ hp)))⟩⟩
    replace F : Fr B L h₁ (put m₁ (Str.ofString "turn") (.int (i : Nat) ti)) := F
    replace N : News B L h₁ ((I, io) :: (x, pileO dx items c) :: (134, tabO p1) :: (141, tabO p2) :: (ts ++ base)) := N
    have hag2 : Agree jNames (put m₁ (Str.ofString "turn") (.int (i : Nat) ti)) m := hag.put (by decide)
    have r0 : put m₁ (Str.ofString "turn") (.int (i : Nat) ti) (Str.ofString "turn") = some (.int (i : Nat) ti) := rfl
    have r1 : put m₁ (Str.ofString "turn") (.int (i : Nat) ti) (Str.ofString "left") = some (.int (left : Nat) tl) := q1
    have r2 : put m₁ (Str.ofString "turn") (.int (i : Nat) ti) (Str.ofString "heap") = some (.str (heapS (ahead + left - total) (min left (total - ahead))) th) := q2
    have r3 : put m₁ (Str.ofString "turn") (.int (i : Nat) ti) (Str.ofString "limit") = some (.int (lim : Nat) tm) := q3
    have r4 : put m₁ (Str.ofString "turn") (.int (i : Nat) ti) (Str.ofString "popper") = some (.bool pop) := q4
    clear q1 q2 q3 q4 hag
    generalize put m₁ (Str.ofString "turn") (.int (i : Nat) ti) = m₂ at *
    try dsimp only
    rw [show turnB = nthS turnB 0 :: turnB.drop 1 from rfl]
    refine execs_cut (R := fun s' => ∃ h' g' tk' p1' p2', s' = ⟨h', g', d, tk', os⟩ ∧ TabOk ⟨66, 19, 66, 63⟩ p1' ∧ TabOk ⟨69, 32, 69, 85⟩ p2' ∧ AllBare g' ∧ Fr B L h' m₂ ∧ News B L h' ((I, io) :: (x, pileO dx items c) :: (134, tabO p1') :: (141, tabO p2') :: (ts ++ base))) ?_ ?_
    · intro Q₂ hQ₂
      exact ta1 T X F N AP hg (List.mem_append.mpr (.inr b2)) (List.mem_append.mpr (.inr bW)) hus O (htup.mono fun p hp => List.mem_append.mpr (.inl hp)) hp1 hp2 ((hag2 _ (by decide)).trans hm1) ((hag2 _ (by decide)).trans hm2) r1 ((hag2 _ (by decide)).trans hm4) hK (by omega) (by omega) hf2 hd hu rfl fun h' g' tk' p1' p2' a b c' F' N' => hQ₂ _ ⟨h', g', tk', p1', p2', rfl, a, b, c', F', N'⟩
    clear F N hp1 hp2 hg
    rintro s' ⟨h₂, g₂, tk₂, p1', p2', rfl, hp1, hp2, hg, F, N⟩
    rcases Nat.eq_zero_or_pos left with h0 | h0
    · subst h0
      have hpf := hpz rfl
      subst hpf
      rw [show turnB.drop 1 = nthS turnB 1 :: turnB.drop 2 from rfl]
      refine execs_cutR (R := fun _ => False) ?_ fun _ z => z.elim
      intro Q₂ _ hret₂
      show wpAny _ _ (exec (Stmt.If _ _ _ _) _) _ _ _
      repeat' (first | ((with_reducible show wpAny _ _ (eval (.Name _ _) _) _ _ _); refine' ld (by assumption) ?hv ?_; (case hv => first | exact rfl | assumption)) | ((with_reducible show wpAny _ _ (loadName _ _) _ _ _); refine' ldn (by assumption) ?hv ?_; (case hv => first | exact rfl | assumption)) | (k_unfold; (try dsimp only)) | (walk1; (try dsimp only)) | (dsimp only; walk1))
      all_goals first | exact hret₂ _ _ (hret _ _ (hret₀ _ _ (hQ _ _ _ _ _ _ _ hp1 hp2 hg (by assumption) (by assumption) (.tail _ (.tail _ (.head _))) (.tail _ (.tail _ (.tail _ (.head _))))))) | omega
    · refine ta25 T X F N AP b2 bW bN hus hnum O htup ((hag2 _ (by decide)).trans hm1) ((hag2 _ (by decide)).trans hm2) ((hag2 _ (by decide)).trans hm3) r0 r3 r1 r4 hio hK h0 (by omega) (by omega) hlim (hpo h0) (by omega) hd hu rfl ?_
      intro h₃ tk₃ m₃ items' c' ts' t tt ht1' htl htup' hap' hp0 hpz' hag3 hmt F' N'
      have hag4 : Agree jNames m₃ m := hag3.up hag2 (by decide)
      refine ta6 (left := left) (t := t) (total := total) (ahead := ahead) (b := pop) T X F' N' ((hag3 _ (by decide)).trans r1) hmt ((hag3 _ (by decide)).trans r2) ((hag4 _ (by decide)).trans hm6) ((hag4 _ (by decide)).trans hm5) ((hag3 _ (by decide)).trans r4) htl (by omega) hah ht21 hd rfl ?_
      intro h₄ tk₄ m₄ ta tb tc hag5 s1 s2 s3 s4 F'' N''
      refine hnext h₄ tk₄ g₂ m₄ ((x, pileO dx items' c') :: (134, tabO p1') :: (141, tabO p2') :: (ts' ++ base)) F'' N'' ?_ ⟨items', c', ts', p1', p2', left - t, 2 * t, !pop, ta, tb, tc, rfl, htup', fun p hp => ⟨(hap' p hp).1, (hap' p hp).2.1, (hap' p hp).2.2.1⟩, hp1, hp2, hg, by omega, by omega, hp0, hpz', s1, s2, s3, s4, hag5.up hag4 (by decide)⟩
      refine all_cons ?_ (all_cons ?_ (all_cons ?_ (fun p hp => ?_)))
      · exact fun e => AP.Ix e.symm
      · exact fun e => AP.I134 e.symm
      · exact fun e => AP.I141 e.symm
      · exact (hap' p hp).2.2.2
  · rintro h' tk' g' m' news' F' N' ⟨items, c, ts, p1, p2, left, lim, pop, tl, th, tm, rfl, _, _, _, _, _, hil, _⟩
    omega
end Mine
set_option maxRecDepth 100000
set_option maxHeartbeats 2000000
namespace Mine
open PySem PySem.W PySem.Calls PyProof.Rows
theorem filledLawRun (P : Params) : PySem.Challenge.rw_wr0051_01 = PySem.Challenge.rw_wr0051_01 ∧ KK P = KK P := by k_fill; exact ⟨rfl, rfl⟩
theorem law_body : lawRec.body = lawS 0 := rfl
theorem law_run {w : World} {mean : ExcName → Option Value} {mg mb : Str → Option Value} {B : Heap} (T : Top₁ mean mg mb B) (X : (KK w.params).In B)
    {A : Around} {L S : Addr} {h₁ : Heap} {d : Drawn} {tk : Nat} {os : OsState} {base : List (Addr × Obj)} {m : Str → Option Value} {vs : List Value} {ns : List Int} {Q : Flow → Shared → Prop}
    (F : Fr B L h₁ m) (N : News B L h₁ base) (t134 : (134, tabO #[]) ∈ base) (t141 : (141, tabO #[]) ∈ base) (hS : B.IsList S vs.toArray) (hI : IntsAre vs ns) (hn63 : ns.length ≤ 63) (hm : m (Str.ofString "script") = some (.ref S)) (hd : A.depth + 20 < recursionLimit) (hu : A.units + 64 < cLine) (hh : A.handled = none)
    (hQ : ∀ h' g' tk' m' news' p1 p2, AllBare g' → Fr B L h' m' → News B L h' news' → (134, tabO p1) ∈ news' → (141, tabO p2) ∈ news' → Q (.ret (.bool true)) ⟨h', g', d, tk', os⟩) :
    wpAny (M₁ w) A (execs (lawS 0) (envL L)) Q (fun _ _ => False) ⟨h₁, #[], d, tk, os⟩ := by
  have p1 := @ph1
  have p2 := @ph2
  have p3 := @ph3
  have p4 := @ph4
  have p5 := @ph5
  have p6 := @ph6
  have p7 := @ph7
  have p8 := @ph8
  have p9 := @ph9
  have p10 := @ph10
  generalize lawS = ls at p1 p2 p3 p4 p5 p6 p7 p8 p9 p10 ⊢
  refine p1 T X F N hS hI hn63 hm hd hh ?_
  clear F N
  intro h1 tk1 Nm un vals cn m1 hnum hNmne q1 F N
  refine p2 T X F N hnum hNmne q1 hd hh ?_
  clear F N
  intro h2 tk2 Wd m2 total limit first ahead n t1 t2 t3 t4 t5 t6 b1 b2 b3 b4 b5 b6 k1 k2 k3 k4 k5 k6 k7 hWne F N
  refine p3 T X F N hWne k6 k2 k7 b1 b2 hd hh ?_
  clear F N
  intro h3 tk3 us cw m3 K c1 c2 c3 c4 ag3 hus F N
  refine p4 (t1 := t1) (t2 := t3) T X F N ((ag3 _ (by decide)).trans k6) ((ag3 _ (by decide)).trans k2) ((ag3 _ (by decide)).trans k4) b1 b2 c2 hus c3 hd hh ?_
  clear F N
  intro h4 tk4 x dx od cp Pc m4 tr O ag4 j1 j2 j3 hxne hPne F N
  have ag34 : Agree (pNames ++ wNames) m4 m2 := (ag4.up ((ag3.up (Agree.refl _ _) (by decide) : Agree (pNames ++ wNames) m3 m2)) (by decide))
  refine p5 T X F N hxne ((ag34 _ (by decide)).trans k6) j1 j2 b2 c2 hus O c3 hd hh ?_
  clear F N
  intro h5 tk5 items c5 ts htup hts F N
  refine p6 (t1 := t1) T X F N AllBare.empty hts (List.mem_append.mpr (.inr (.head _))) ((ag34 _ (by decide)).trans k2) j2 j3 b2 c2 c3 hd hh ?_
  clear F N
  intro h6 g6 tk6 m6 pit Pc2 nw tr6 hg6 ag6 j4 j5 hPc hpt hnw hsub F N
  have sub5 : ∀ p ∈ ts ++ (Pc, W.listOf #[] 0) :: (dx, od) :: (Wd, W.listOf us.toArray cw) :: (Nm, W.listOf un.toArray cn) :: base, p ∈ nw := hsub
  have m2n : (dx, od) ∈ nw := sub5 _ (List.mem_append.mpr (.inr (.tail _ (.head _))))
  have mWn : (Wd, W.listOf us.toArray cw) ∈ nw := sub5 _ (List.mem_append.mpr (.inr (.tail _ (.tail _ (.head _)))))
  have mNn : (Nm, W.listOf un.toArray cn) ∈ nw := sub5 _ (List.mem_append.mpr (.inr (.tail _ (.tail _ (.tail _ (.head _))))))
  have m134 : (134, tabO #[]) ∈ nw := sub5 _ (List.mem_append.mpr (.inr (.tail _ (.tail _ (.tail _ (.tail _ t134))))))
  have m141 : (141, tabO #[]) ∈ nw := sub5 _ (List.mem_append.mpr (.inr (.tail _ (.tail _ (.tail _ (.tail _ t141))))))
  refine p7 T X F N hnw hPc m2n O (htup.mono fun p hp => sub5 p (List.mem_append.mpr (.inl hp))) hpt ((ag6 _ (by decide)).trans j1) j4 j5 b2 hd hu hh ?_
  clear F N
  intro h7 tk7 c7 F N
  refine p8 T X F N hnw hPc m2n O hpt ((ag6 _ (by decide)).trans j1) j5 b2 hd hh ?_
  clear F N
  intro h8 tk8 m8 items8 c8 ts8 ag8 htup8 hts8 F N
  have ag28 : Agree (oNames ++ gNames ++ pNames ++ wNames) m8 m2 := (ag8.up ((ag6.up ((ag34.up (Agree.refl _ _) (by decide) : Agree (oNames ++ gNames ++ pNames ++ wNames) m4 m2)) (by decide) : Agree (oNames ++ gNames ++ pNames ++ wNames) m6 m2)) (by decide))
  have pile8 : m8 (Str.ofString "pile") = some (.ref x) := (ag8 _ (by decide)).trans ((ag6 _ (by decide)).trans j1)
  refine p9 (total := total) (limit := limit) (ahead := ahead) T X F N ((ag28 _ (by decide)).trans k2) ((ag28 _ (by decide)).trans k3) ((ag28 _ (by decide)).trans k5) ⟨by omega, b2⟩ b6 hd hh ?_
  clear F N
  intro h9 tk9 m9 ta tb ag9 l1 l2 l3 F N
  refine p10 (K := K) (total := total) (limit := limit) (first := first) (ahead := ahead) T X F N hg6 (.head _) (.tail _ (List.mem_append.mpr (.inr m134))) (.tail _ (List.mem_append.mpr (.inr m141))) (.tail _ (List.mem_append.mpr (.inr m2n))) (.tail _ (List.mem_append.mpr (.inr mWn))) (.tail _ (List.mem_append.mpr (.inr mNn))) hus hnum O (htup8.mono fun p hp => .tail _ (List.mem_append.mpr (.inl hp))) (.inl rfl) (.inl rfl) ((ag9 _ (by decide)).trans pile8) ((ag9 _ (by decide)).trans ((ag28 _ (by decide)).trans k6)) ((ag9 _ (by decide)).trans ((ag28 _ (by decide)).trans k1)) ((ag9 _ (by decide)).trans ((ag28 _ (by decide)).trans k4)) ((ag9 _ (by decide)).trans ((ag28 _ (by decide)).trans k2)) ((ag9 _ (by decide)).trans ((ag28 _ (by decide)).trans k5)) l1 l2 ((ag9 _ (by decide)).trans ((ag28 _ (by decide)).trans k3)) l3 c2 c3 (by omega) b2 b3 b5 b6 hd hu hh ?_
  clear F N
  intro h' g' tk' m' news' p1 p2 _ _ hg' F N n134 n141
  exact hQ h' g' tk' m' news' p1 p2 hg' F N n134 n141
end Mine
set_option maxRecDepth 100000
set_option maxHeartbeats 2000000
namespace Mine
open PySem PySem.W PySem.Calls PyProof.Rows
theorem filledLawTop3 (P : Params) : PySem.Challenge.rw_wr0051_01 = PySem.Challenge.rw_wr0051_01 ∧ KK P = KK P := by k_fill; exact ⟨rfl, rfl⟩
theorem walk₁ : Walk₁ := by
  intro w s₀ s₁ mg mb G Y fa o pm cd doc dV kV ho hd hcd hD hmg hg args vals as hpre hlay hrd hwl hlo
  have KX := kIn_of Y
  have T := G.T
  wrow_args hpre hlay hrd hwl hlo
  rename_i ns hs hlay0 hL1 hr1 hl2 as3 as4 S vs as5 hL ra w1 r0 hI hr hcond _
  have e134 : s₁.heap.get? 134 = some ⟨.none, none, .fields #[], #[]⟩ := KX 134 _ rfl
  have e141 : s₁.heap.get? 141 = some ⟨.none, none, .fields #[], #[]⟩ := KX 141 _ rfl
  have XK : (KK w.params).In s₁.heap := kx_kk KX
  obtain rfl : fa = 216 := by
    obtain ⟨o', es, ep, e1, e2, e3, e4⟩ := T.g
    have e5 : s₁.heap.get? 3 = some (o3G w.params) := XK 3 _ rfl
    obtain rfl : o3G w.params = o' := Option.some.inj (e5.symm.trans e1)
    have e6 : es = es3 w.params := by unfold es3; rw [e2]
    subst e6
    have e7 : nsFind (es3 w.params) lawRec.name = some (.ref fa) := (e4 lawRec.name).trans hmg
    have e8 : nsFind (es3 w.params) lawRec.name = some (.ref 216) := by kernel_rfl
    rw [e8] at e7
    injection e7 with e9; injection e9 with e10
    exact e10.symm
  have TB : Top₁ (ExcName.means s₀.heap) mg mb (hide s₁.heap) := top_hide T XK e134 e141
  have XB : (KK w.params).In (hide s₁.heap) := kk_hide XK
  dsimp only
  obtain ⟨od, osl, pm', doc', hf⟩ : ∃ od osl pm' doc', (KK w.params).lookup 216 = some ⟨.type "function", od, .func (docDef lawRec.name lawRec.params lawRec.body lawRec.scope pm' (.ref 215) doc'), osl⟩ := ⟨_, _, _, _, rfl⟩
  have hsc : s₁.heap.CodeRec (.ref 215) lawRec.name := codeRec_of XK (by rfl)
  obtain ⟨hp0, g0, d0, tk0, os0⟩ := s₁
  obtain rfl : g0 = #[] := hg
  dsimp only at *
  refine wpAny_call (call_plain_ret (by decide) (XK _ _ hf) rfl (T.nolimit) hsc (binds := [(u "script", Value.ref S)]) (by rfl) (locs (by rfl)) (fun h₁ F₁ => ?_) (by rfl) (by rfl) (by rfl) (by decide))
  have F : Fr (hide hp0) hp0.objs.size h₁ (fun x => [(u "script", Value.ref S)].reverse.lookup x) := ⟨F₁.ns, fun b o e => F₁.keep b o (hide_sub e).1, by rw [hide_size]; exact F₁.above⟩
  have N : News (hide hp0) hp0.objs.size h₁ [(134, tabO #[]), (141, tabO #[])] := by
    refine all_cons ?_ (all_cons ?_ (fun p hp => ?_))
    · exact ⟨F₁.keep _ _ e134, Nat.ne_of_lt (Heap.lt_size e134), hide_134⟩
    · exact ⟨F₁.keep _ _ e141, Nat.ne_of_lt (Heap.lt_size e141), hide_141⟩
    · cases hp
  have hS : (hide hp0).IsList S vs.toArray := by
    obtain ⟨o, e, ec, r⟩ := hL
    exact ⟨o, hide_keep e134 e141 e (by rw [ec]; intro z; cases z), ec, r⟩
  have hn63 : ns.length ≤ 63 := by omega
  rw [law_body]
  have run := @law_run
  generalize lawS = ls at run ⊢
  refine run TB XB F N (.head _) (.tail _ (.head _)) hS hI hn63 rfl (by show (callerA.depth + 1) + 20 < recursionLimit; decide) (by show 4 + 3 + 64 < cLine; decide) rfl ?_
  clear F N F₁
  intro h' g' tk' m' news' p1 p2 hg' F N n134 n141
  refine ⟨.inl ⟨.bool true, .bool true, [], rfl, fun _ => rfl, .bool _, ?_, ?_⟩, ?_, rfl, hg'⟩
  · refine' postW_of ?s9 ?v9 ?e9
    (case s9 => o_shape)
    (case v9 => wtm_val)
    (case e9 => w_fin)
  · intro hun; exact ⟨List.nodup_nil, fun a ha => (nomatch ha)⟩
  · have code : ∀ P, (P = 134 ∨ P = 141) → isCodeTable hp0 P := by
      rintro P (rfl | rfl)
      · exact ⟨138, _, _, XK 138 _ rfl, rfl, rfl, rfl⟩
      · exact ⟨145, _, _, XK 145 _ rfl, rfl, rfl, rfl⟩
    refine ⟨fun b o e => ?_, fun b o e => ?_⟩
    · by_cases hb1 : b = 134
      · subst hb1
        obtain rfl : o = ⟨.none, none, .fields #[], #[]⟩ := Option.some.inj (e.symm.trans e134)
        exact .inr (.inl ⟨code _ (.inl rfl), rfl, #[], p1, rfl, by rw [Array.empty_append]; exact (N _ n134).1⟩)
      by_cases hb2 : b = 141
      · subst hb2
        obtain rfl : o = ⟨.none, none, .fields #[], #[]⟩ := Option.some.inj (e.symm.trans e141)
        exact .inr (.inl ⟨code _ (.inr rfl), rfl, #[], p2, rfl, by rw [Array.empty_append]; exact (N _ n141).1⟩)
      exact .inl (F.keep b o ((hide_get hb1 hb2).trans e))
    · by_cases hb1 : b = 134
      · subst hb1; exact ⟨_, (N _ n134).1⟩
      by_cases hb2 : b = 141
      · subst hb2; exact ⟨_, (N _ n141).1⟩
      exact ⟨o, F.keep b o ((hide_get hb1 hb2).trans e)⟩
end Mine
theorem PySem.Challenge.cw_wr0051_01_holds : PySem.Challenge.rw_wr0051_01.Holds := by
  exact Mine.head₁ Mine.walk₁
