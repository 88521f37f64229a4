import PyProof.Rows.All
import Wide.All
import OpenK.AllK
import Wide.FinOn
import PySem.Challenge.RW_pe0139_01
set_option Elab.async false
section
namespace Mine

/-- the signs' codes of the terminals 7 .. 14 -/
def sg (s : Int) : List Nat :=
  if s = 7 then [40] else if s = 8 then [41] else if s = 9 then [91] else if s = 10 then [93] else if s = 11 then [58] else if s = 12 then [44] else if s = 13 then [59] else [43]

def Sym (s : Int) : Prop := (7 ≤ s ∧ s ≤ 14) ∨ (256 ≤ s ∧ s ≤ 259)

def mx (W : Int → Int) : List Int → Int
  | [] => 0
  | o :: r => max ((r.length : Int) + W o) (mx W r)

def RowOk (s : Int) (row : List Int) : Prop := 1 ≤ row.length ∧ row.length ≤ 3 ∧ ∀ o ∈ row, (7 ≤ o ∧ o ≤ 14) ∨ (s < o ∧ o ≤ 259)

structure Gram (R : Int → List Int) (T : Int → List Nat) (W N : Int → Int) : Prop where
  row : ∀ s, 256 ≤ s → s ≤ 259 → RowOk s (R s)
  tT : ∀ s, 7 ≤ s → s ≤ 14 → T s = sg s
  tW : ∀ s, 7 ≤ s → s ≤ 14 → W s = 1
  tN : ∀ s, 7 ≤ s → s ≤ 14 → N s = 1
  nT : ∀ s, 256 ≤ s → s ≤ 259 → T s = (R s).flatMap T
  nW : ∀ s, 256 ≤ s → s ≤ 259 → W s = mx W (R s)
  nN : ∀ s, 256 ≤ s → s ≤ 259 → N s = 1 + ((R s).map N).sum

theorem mx_ge {W : Int → Int} : ∀ {l : List Int}, l ≠ [] → (∀ o ∈ l, 1 ≤ W o) → 1 ≤ mx W l
  | [], h, _ => absurd rfl h
  | o :: r, _, h => by
    have := h o (List.mem_cons_self ..)
    unfold mx
    omega

theorem sum_le {N : Int → Int} {b : Int} : ∀ {l : List Int}, (∀ o ∈ l, 1 ≤ N o ∧ N o ≤ b) → (l.length : Int) ≤ (l.map N).sum ∧ (l.map N).sum ≤ b * l.length
  | [], _ => by simp
  | o :: r, h => by
    have h1 := h o (List.mem_cons_self ..)
    have h2 := sum_le (l := r) fun x hx => h x (List.mem_cons_of_mem _ hx)
    simp only [List.map_cons, List.sum_cons, List.length_cons]
    have e : b * ((r.length + 1 : Nat) : Int) = b * r.length + b := by
      rw [Int.natCast_add, Int.mul_add]; simp
    rw [e]
    omega

section
variable {R : Int → List Int} {T : Int → List Nat} {W N : Int → Int}

theorem Gram.low (G : Gram R T W N) : ∀ (k : Nat) (s : Int), s = 259 - k → k ≤ 3 → 1 ≤ W s ∧ 1 ≤ N s ∧ N s ≤ (if k = 0 then 4 else if k = 1 then 13 else if k = 2 then 40 else 121)
  | k, s, hs, hk => by
    have r := G.row s (by omega) (by omega)
    have ne : R s ≠ [] := by intro e; have := r.1; rw [e] at this; simp at this
    have terms : ∀ o ∈ R s, 1 ≤ W o ∧ 1 ≤ N o ∧ N o ≤ (if k = 0 then 1 else if k = 1 then 4 else if k = 2 then 13 else 40) := by
      intro o ho
      rcases r.2.2 o ho with h | h
      · rw [G.tW o h.1 h.2, G.tN o h.1 h.2]
        repeat' split
        all_goals omega
      · have hlt : (259 - o).toNat < k := by omega
        have := Gram.low G (259 - o).toNat o (by omega) (by omega)
        refine ⟨this.1, this.2.1, Int.le_trans this.2.2 ?_⟩
        have : k = 1 ∨ k = 2 ∨ k = 3 := by omega
        have h3 : (259 - o).toNat = 0 ∨ (259 - o).toNat = 1 ∨ (259 - o).toNat = 2 := by omega
        rcases this with rfl | rfl | rfl <;> rcases h3 with h3 | h3 | h3 <;> rw [h3] <;> first | omega | (exfalso; omega) | decide
    refine ⟨by rw [G.nW s (by omega) (by omega)]; exact mx_ge ne fun o ho => (terms o ho).1, ?_⟩
    have b := sum_le (N := N) (l := R s) fun o ho => (terms o ho).2
    have hl : ((R s).length : Int) ≤ 3 := by have := r.2.1; omega
    have hl1 : (1 : Int) ≤ ((R s).length : Int) := by have := r.1; omega
    rw [G.nN s (by omega) (by omega)]
    have : k = 0 ∨ k = 1 ∨ k = 2 ∨ k = 3 := by omega
    rcases this with rfl | rfl | rfl | rfl <;> simp at b ⊢ <;> omega
termination_by k => k

theorem Gram.W1 (G : Gram R T W N) {s : Int} (h : Sym s) : 1 ≤ W s := by
  rcases h with h | h
  · rw [G.tW s h.1 h.2]; exact Int.le_refl _
  · exact (G.low (259 - s).toNat s (by omega) (by omega)).1
theorem Gram.N1 (G : Gram R T W N) {s : Int} (h : Sym s) : 1 ≤ N s := by
  rcases h with h | h
  · rw [G.tN s h.1 h.2]; exact Int.le_refl _
  · exact (G.low (259 - s).toNat s (by omega) (by omega)).2.1
theorem Gram.N256 (G : Gram R T W N) : N 256 ≤ 121 := by
  have := (G.low 3 256 (by omega) (by omega)).2.2
  simpa using this
theorem Gram.sym (G : Gram R T W N) {s o : Int} (h0 : 256 ≤ s) (h1 : s ≤ 259) (ho : o ∈ R s) : Sym o := by
  rcases (G.row s h0 h1).2.2 o ho with h | h
  · exact .inl h
  · exact .inr (by omega)

def MM (W : Int → Int) : List Int → Int
  | [] => 1
  | s :: r => max (W s + (r.length : Int) + 1) (MM W r)

theorem MM_append (W : Int → Int) (st : List Int) : ∀ r : List Int, (∀ o ∈ r, 1 ≤ W o) → MM W (r ++ st) = if r = [] then MM W st else max (mx W r + (st.length : Int) + 1) (MM W st)
  | [], _ => by simp
  | [o], h => by
    have := h o (List.mem_cons_self ..)
    simp only [List.cons_append, List.nil_append, MM, mx, List.length_nil]
    rw [if_neg (by simp)]
    omega
  | o :: p :: r, h => by
    have ih := MM_append W st (p :: r) fun x hx => h x (List.mem_cons_of_mem _ hx)
    rw [if_neg (by simp)] at ih ⊢
    simp only [List.cons_append] at ih
    show max (W o + ((p :: (r ++ st)).length : Int) + 1) (MM W (p :: (r ++ st))) = _
    rw [ih]
    show _ = max (max (((p :: r).length : Int) + W o) (mx W (p :: r)) + (st.length : Int) + 1) (MM W st)
    simp only [List.length_cons, List.length_append]
    omega

structure Mch (T : Int → List Nat) (W N : Int → Int) (st : List Int) (told : List Nat) (most turns : Int) : Prop where
  sym : ∀ s ∈ st, Sym s
  text : told ++ st.flatMap T = T 256
  mostE : max most (MM W st) = 1 + W 256
  turnsE : turns + (st.map N).sum = N 256
  t0 : 0 ≤ turns

theorem Mch.start (G : Gram R T W N) : Mch T W N [256] [] 0 0 := by
  have := G.W1 (s := 256) (.inr (by omega))
  exact ⟨fun s hs => by rw [List.mem_singleton.mp hs]; exact .inr (by omega), by simp, by simp only [MM, List.length_nil]; omega, by simp, Int.le_refl _⟩

theorem Mch.term (G : Gram R T W N) {s : Int} {st : List Int} {told : List Nat} {most turns : Int} (I : Mch T W N (s :: st) told most turns) (h0 : 7 ≤ s) (h1 : s ≤ 14) :
    Mch T W N st (told ++ sg s) (max most (((s :: st).length + 1 : Nat) : Int)) (turns + 1) := by
  refine ⟨fun x hx => I.sym x (List.mem_cons_of_mem _ hx), ?_, ?_, ?_, by have := I.t0; omega⟩
  · rw [← I.text, List.flatMap_cons, G.tT s h0 h1, List.append_assoc]
  · have := I.mostE
    simp only [MM, G.tW s h0 h1] at this
    simp only [List.length_cons]
    omega
  · have := I.turnsE
    simp only [List.map_cons, List.sum_cons, G.tN s h0 h1] at this
    omega

theorem Mch.non (G : Gram R T W N) {s : Int} {st : List Int} {told : List Nat} {most turns : Int} (I : Mch T W N (s :: st) told most turns) (h0 : 256 ≤ s) (h1 : s ≤ 259) :
    Mch T W N (R s ++ st) told (max most (((s :: st).length + 1 : Nat) : Int)) (turns + 1) := by
  have r := G.row s h0 h1
  have ne : R s ≠ [] := by intro e; have := r.1; rw [e] at this; simp at this
  refine ⟨fun x hx => ?_, ?_, ?_, ?_, by have := I.t0; omega⟩
  · rcases List.mem_append.mp hx with h | h
    · exact G.sym h0 h1 h
    · exact I.sym x (List.mem_cons_of_mem _ h)
  · rw [← I.text, List.flatMap_cons, List.flatMap_append, G.nT s h0 h1]
  · have := I.mostE
    have w := G.W1 (s := s) (.inr ⟨h0, h1⟩)
    rw [MM_append W st (R s) (fun o ho => G.W1 (G.sym h0 h1 ho)), if_neg ne, ← G.nW s h0 h1]
    simp only [MM] at this
    simp only [List.length_cons]
    omega
  · have := I.turnsE
    simp only [List.map_cons, List.sum_cons] at this
    rw [List.map_append, List.sum_append]
    have := G.nN s h0 h1
    omega

theorem Mch.fin {told : List Nat} {most turns : Int} (I : Mch T W N [] told most turns) : told = T 256 ∧ max most 1 = 1 + W 256 ∧ turns + 1 = N 256 + 1 := by
  refine ⟨by simpa using I.text, I.mostE, ?_⟩
  have := I.turnsE
  simp at this
  omega

theorem Mch.lt {st : List Int} {told : List Nat} {most turns : Int} (G : Gram R T W N) (I : Mch T W N st told most turns) : turns + (st.length : Int) ≤ 121 := by
  have a := G.N256
  have b := I.turnsE
  have c : (st.length : Int) ≤ (st.map N).sum := by
    have h := I.sym
    clear I b
    induction st with
    | nil => simp
    | cons s r ih =>
      have := G.N1 (h s (List.mem_cons_self ..))
      have := ih fun x hx => h x (List.mem_cons_of_mem _ hx)
      simp only [List.map_cons, List.sum_cons, List.length_cons]
      omega
  omega
end
end Mine
end
section
namespace Mine
def ext {α : Type} (R : Int → List Int) (g : (Int → α) → List Int → α) (s : Int) (f : Int → α) : Int → α := fun x => if x = s then g f (R s) else f x
def four {α : Type} (R : Int → List Int) (g : (Int → α) → List Int → α) (f : Int → α) : Int → α := ext R g 256 (ext R g 257 (ext R g 258 (ext R g 259 f)))
theorem ext_at {α : Type} {R : Int → List Int} {g : (Int → α) → List Int → α} {s : Int} {f : Int → α} : ext R g s f s = g f (R s) := if_pos rfl
theorem ext_ne {α : Type} {R : Int → List Int} {g : (Int → α) → List Int → α} {s x : Int} {f : Int → α} (h : x ≠ s) : ext R g s f x = f x := if_neg h
theorem four_low {α : Type} {R : Int → List Int} {g : (Int → α) → List Int → α} {f : Int → α} {s : Int} (h : s ≤ 255) : four R g f s = f s := by
  unfold four
  rw [ext_ne (by omega), ext_ne (by omega), ext_ne (by omega), ext_ne (by omega)]
theorem four_at {α : Type} {R : Int → List Int} {g : (Int → α) → List Int → α} {f : Int → α} (hR : ∀ s, 256 ≤ s → s ≤ 259 → RowOk s (R s)) (hg : ∀ (f₁ f₂ : Int → α) (l : List Int), (∀ o ∈ l, f₁ o = f₂ o) → g f₁ l = g f₂ l) {s : Int} (h0 : 256 ≤ s) (h1 : s ≤ 259) :
    four R g f s = g (four R g f) (R s) := by
  have hc : s = 256 ∨ s = 257 ∨ s = 258 ∨ s = 259 := by omega
  have r := (hR s h0 h1).2.2
  unfold four
  rcases hc with rfl | rfl | rfl | rfl
  · rw [ext_at]
    refine hg _ _ _ fun o ho => ?_
    have := r o ho
    rw [ext_ne (s := 256) (by omega)]
  · rw [ext_ne (s := 256) (by decide), ext_at]
    refine hg _ _ _ fun o ho => ?_
    have := r o ho
    rw [ext_ne (s := 256) (by omega), ext_ne (s := 257) (by omega)]
  · rw [ext_ne (s := 256) (by decide), ext_ne (s := 257) (by decide), ext_at]
    refine hg _ _ _ fun o ho => ?_
    have := r o ho
    rw [ext_ne (s := 256) (by omega), ext_ne (s := 257) (by omega), ext_ne (s := 258) (by omega)]
  · rw [ext_ne (s := 256) (by decide), ext_ne (s := 257) (by decide), ext_ne (s := 258) (by decide), ext_at]
    refine hg _ _ _ fun o ho => ?_
    have := r o ho
    rw [ext_ne (s := 256) (by omega), ext_ne (s := 257) (by omega), ext_ne (s := 258) (by omega), ext_ne (s := 259) (by omega)]
theorem flatMap_same {f₁ f₂ : Int → List Nat} : ∀ l : List Int, (∀ o ∈ l, f₁ o = f₂ o) → l.flatMap f₁ = l.flatMap f₂
  | [], _ => rfl
  | o :: r, h => by
    rw [List.flatMap_cons, List.flatMap_cons, h o (List.mem_cons_self ..), flatMap_same r fun x hx => h x (List.mem_cons_of_mem _ hx)]
theorem mx_same {f₁ f₂ : Int → Int} : ∀ l : List Int, (∀ o ∈ l, f₁ o = f₂ o) → mx f₁ l = mx f₂ l
  | [], _ => rfl
  | o :: r, h => by
    show max _ (mx f₁ r) = max _ (mx f₂ r)
    rw [h o (List.mem_cons_self ..), mx_same r fun x hx => h x (List.mem_cons_of_mem _ hx)]
theorem map_same {f₁ f₂ : Int → Int} : ∀ l : List Int, (∀ o ∈ l, f₁ o = f₂ o) → l.map f₁ = l.map f₂
  | [], _ => rfl
  | o :: r, h => by
    rw [List.map_cons, List.map_cons, h o (List.mem_cons_self ..), map_same r fun x hx => h x (List.mem_cons_of_mem _ hx)]
theorem exists_gram {R : Int → List Int} (hR : ∀ s, 256 ≤ s → s ≤ 259 → RowOk s (R s)) : ∃ T W N, Gram R T W N := by
  refine ⟨four R (fun f l => l.flatMap f) sg, four R (fun f l => mx f l) (fun _ => 1), four R (fun f l => 1 + (l.map f).sum) (fun _ => 1), ⟨hR, ?_, ?_, ?_, ?_, ?_, ?_⟩⟩
  · intro s _ _; exact four_low (by omega)
  · intro s _ _; exact four_low (by omega)
  · intro s _ _; exact four_low (by omega)
  · intro s h0 h1; exact four_at hR (fun f₁ f₂ l h => flatMap_same l h) h0 h1
  · intro s h0 h1; exact four_at hR (fun f₁ f₂ l h => mx_same l h) h0 h1
  · intro s h0 h1; exact four_at hR (fun f₁ f₂ l h => by show 1 + (l.map f₁).sum = 1 + (l.map f₂).sum; rw [map_same l h]) h0 h1

end Mine
end
section
open PySem PySem.W PyProof.Rows
namespace Mine
set_option maxRecDepth 100000
set_option maxHeartbeats 8000000
open_top hd for PySem.Challenge.rw_pe0139_01
end Mine
end
section
namespace Mine
theorem top_off_W2h : True := by
  w_top off
  trivial
end Mine
open PySem PyProof.Rows
namespace Mine
theorem empty_cps : (Str.ofString "").cps = #[] := by decide +kernel
theorem fold_codes : ∀ (rest : List Str) (acc : Array Nat), (rest.foldl (fun acc p => acc ++ (Str.ofString "").cps ++ p.cps) acc).toList = acc.toList ++ rest.flatMap (·.cps.toList)
  | [], acc => by simp
  | x :: r, acc => by
    rw [List.foldl_cons, fold_codes r, empty_cps]
    simp
theorem join_codes : ∀ texts : List Str, (Txt.join (Str.ofString "") texts).cps.toList = texts.flatMap (·.cps.toList)
  | [] => rfl
  | x :: r => by
    show ((r.foldl (fun acc p => acc ++ (Str.ofString "").cps ++ p.cps) x.cps)).toList = _
    rw [fold_codes]
    rfl
theorem fold_len : ∀ (l : List Str) (n : Nat), l.foldl (fun a x => a + x.length + (Str.ofString "").length) n = n + (l.map (·.length)).sum
  | [], n => by simp
  | x :: r, n => by
    have e : (Str.ofString "").length = 0 := by decide +kernel
    rw [List.foldl_cons, fold_len r, e]
    simp
    omega
theorem joinOk_of {texts : List Str} (h : (texts.map (·.length)).sum ≤ 100000) : JoinOk (Str.ofString "") texts = true := by
  unfold JoinOk
  rw [List.foldl_toArray, fold_len]
  simp only [Builtin.Str.tooLong, Bool.not_eq_true', decide_eq_false_iff_not]
  rw [sizeLine_eq]
  omega
theorem sum_ones : ∀ {l : List Str}, (∀ x ∈ l, x.length ≤ 1) → (l.map (·.length)).sum ≤ l.length
  | [], _ => by simp
  | x :: r, h => by
    have h1 := h x (List.mem_cons_self ..)
    have h2 := sum_ones (l := r) fun y hy => h y (List.mem_cons_of_mem _ hy)
    simp only [List.map_cons, List.sum_cons, List.length_cons]
    omega
end Mine
end
section
namespace Mine
theorem top_off_W2a : True := by
  w_top off
  trivial
end Mine
open PySem PySem.W PyProof.Rows PySem.Calls
set_option maxRecDepth 100000
set_option maxHeartbeats 4000000
namespace Mine
noncomputable section
abbrev accObj (dx : Addr) (its : List Value) (n : Nat) : Obj := { cls := .ref 125, dict := some dx, data := .seq its.toArray n }
variable {w : World} {A A₀ : Around} {outer : List Env} {base h₀ : Heap} {L : Addr} {m mg mb : Str → Option Value} {mean : ExcName → Option Value} {env : Env} {news : List (Addr × Obj)} {s : Shared} {Q : Value → Shared → Prop} {E : Value → Shared → Prop} {LS : List Str}

theorem accInst {h : Heap} {x dx : Addr} {its : List Value} {n : Nat} {od : Obj} (N : News h₀ L h news) (h1 : (x, accObj dx its n) ∈ news) (h2 : (dx, od) ∈ news) : InstAt h x (accObj dx its n) 125 (some od) := ⟨(N _ h1).1, rfl, rfl, (N _ h2).1⟩

abbrev boundObj (bt id : String) (x : Addr) : Obj := { cls := .type bt, data := .fields #[.builtin id, .ref x] }
theorem slot_wd : Slot "wrapper_descriptor" "__get__" "wrapper_descriptor.__get__" := .of (owner := "wrapper_descriptor") (n := "__get__") (by rw [typeLookup_type, builtinLookup_eq_fast]; kernel_rfl) (by decide +kernel) (by decide +kernel) (by decide +kernel)
  (by first | exact .inl (by decide +kernel) | exact .inr (by decide +kernel)) (by rw [isSubtype_type]; kernel_rfl)
theorem entry_wd : entryFor table "wrapper_descriptor.__get__" = some Builtin.«wrapper_descriptor.__get__» := entryFor_of_tree (by kernel_rfl)
theorem args_wd (a b c : Value) : argsOk "wrapper_descriptor.__get__" ⟨[a, b, c], []⟩ := by unfold argsOk; kernel_rfl
theorem slot_md : Slot "method_descriptor" "__get__" "method_descriptor.__get__" := .of (owner := "method_descriptor") (n := "__get__") (by rw [typeLookup_type, builtinLookup_eq_fast]; kernel_rfl) (by decide +kernel) (by decide +kernel) (by decide +kernel)
  (by first | exact .inl (by decide +kernel) | exact .inr (by decide +kernel)) (by rw [isSubtype_type]; kernel_rfl)
theorem entry_md : entryFor table "method_descriptor.__get__" = some Builtin.«method_descriptor.__get__» := entryFor_of_tree (by kernel_rfl)
theorem args_md (a b c : Value) : argsOk "method_descriptor.__get__" ⟨[a, b, c], []⟩ := by unfold argsOk; kernel_rfl
theorem type_len : typeOf (.builtin "list.__len__") = pure (.type "wrapper_descriptor") := by show builtinType _ = _; rw [builtinType_eq_fast]; kernel_rfl
theorem type_init : typeOf (.builtin "list.__init__") = pure (.type "wrapper_descriptor") := by show builtinType _ = _; rw [builtinType_eq_fast]; kernel_rfl
theorem lk_wd : typeLookup (.type "wrapper_descriptor") "__get__" = pure (some (.builtin "wrapper_descriptor.__get__")) := slot_wd.lookup
theorem lk_md : typeLookup (.type "method_descriptor") "__get__" = pure (some (.builtin "method_descriptor.__get__")) := slot_md.lookup

theorem get_len {prog : Program} {x C : Addr} {Q E : Value → Shared → Prop} (hi : Looks (model prog w) s.heap (isInstance (.ref x) (.type "list")) true) (q : Q (.ref s.heap.objs.size) { s with heap := s.heap.push (boundObj "method-wrapper" "list.__len__" x) }) :
    wpAny (model prog w) A (call (.builtin "wrapper_descriptor.__get__") [.builtin "list.__len__", .ref x, .ref C]) Q E s := by
  obtain ⟨hh, g, d, t, os⟩ := s
  refine wpAny_call_entry slot_wd type_len entry_wd ?_ (args_wd _ _ _)
  unfold Builtin.«wrapper_descriptor.__get__»
  dsimp only at hi
  repeat (first | ((with_reducible show wpAny _ _ (isInstance _ _) _ _ _); refine Looks.at hi ?_) | lk)
  exact ⟨_, rfl, q⟩
theorem get_init {prog : Program} {x C : Addr} {Q E : Value → Shared → Prop} (hi : Looks (model prog w) s.heap (isInstance (.ref x) (.type "list")) true) (q : Q (.ref s.heap.objs.size) { s with heap := s.heap.push (boundObj "method-wrapper" "list.__init__" x) }) :
    wpAny (model prog w) A (call (.builtin "wrapper_descriptor.__get__") [.builtin "list.__init__", .ref x, .ref C]) Q E s := by
  obtain ⟨hh, g, d, t, os⟩ := s
  refine wpAny_call_entry slot_wd type_init entry_wd ?_ (args_wd _ _ _)
  unfold Builtin.«wrapper_descriptor.__get__»
  dsimp only at hi
  repeat (first | ((with_reducible show wpAny _ _ (isInstance _ _) _ _ _); refine Looks.at hi ?_) | lk)
  exact ⟨_, rfl, q⟩
theorem get_pop {prog : Program} {x C : Addr} {Q E : Value → Shared → Prop} (hi : Looks (model prog w) s.heap (isInstance (.ref x) (.type "list")) true) (q : Q (.ref s.heap.objs.size) { s with heap := s.heap.push (boundObj "builtin_function_or_method" "list.pop" x) }) :
    wpAny (model prog w) A (call (.builtin "method_descriptor.__get__") [.builtin "list.pop", .ref x, .ref C]) Q E s := by
  obtain ⟨hh, g, d, t, os⟩ := s
  refine wpAny_call_entry slot_md PySem.F.type_list_pop entry_md ?_ (args_md _ _ _)
  unfold Builtin.«method_descriptor.__get__»
  dsimp only at hi
  repeat (first | ((with_reducible show wpAny _ _ (isInstance _ _) _ _ _); refine Looks.at hi ?_) | lk)
  exact ⟨_, rfl, q⟩
theorem bound_len {prog : Program} {q x dx : Addr} {its : List Value} {n : Nat} {Q E : Value → Shared → Prop} (hq : s.heap.get? q = some (boundObj "method-wrapper" "list.__len__" x)) (hx : s.heap.get? x = some (accObj dx its n)) (hi : Looks (model prog w) s.heap (isInstance (.ref x) (.type "list")) true)
    (h : ∀ tk t, Q (.int its.length t) { s with toks := tk }) : wpAny (model prog w) A (call (.ref q) []) Q E s := by
  obtain ⟨hh, g, d, t, os⟩ := s
  dsimp only at hi hq hx
  refine wpAny_call (codeAny_of_tree ?_)
  show wpAny _ _ (callAny (.ref q) _) _ _ _
  unfold callAny
  repeat lk
  refine ⟨Code.quiet_builtin _ (by decide +kernel), codeAny_builtin PySem.F.entry_list_len ?_⟩
  unfold Builtin.«list.__len__»
  repeat lk
  have := h (t + 1) t
  simpa using this
theorem bound_pop {q x dx : Addr} {pre : List Value} {v : Value} {n : Nat} {Q E : Value → Shared → Prop} (hq : s.heap.get? q = some (boundObj "builtin_function_or_method" "list.pop" x)) (hx : s.heap.get? x = some (accObj dx (pre ++ [v]) n))
    (X : (Mine.hd.heap_39 w.params).In s.heap) (hno : Looks (model PySem.Challenge.rw_pe0139_01.row.prog w) s.heap (isInstance (.ref x) (.type "module")) false)
    (hsz : pre.length < 1000) (h : ∀ h', Heap.SameBut x s.heap h' → h'.get? x = some (accObj dx pre (n + 1)) → Q v { s with heap := h' }) : wpAny (model PySem.Challenge.rw_pe0139_01.row.prog w) A (call (.ref q) []) Q E s := by
  have hfill : (Mine.hd.heap_39 w.params).In s.heap → PySem.Challenge.rw_pe0139_01.row.prog = PySem.Challenge.rw_pe0139_01.row.prog := by k_fill; intro _; rfl
  clear hfill
  obtain ⟨hh, g, d, t, os⟩ := s
  have hC := X 125 _ (by k_is)
  dsimp only at hno hq hx hC
  refine wpAny_call (codeAny_of_tree ?_)
  show wpAny _ _ (callAny (.ref q) _) _ _ _
  unfold callAny
  repeat (first | ((with_reducible show wpAny _ _ (isInstance _ _) _ _ _); refine Looks.at hno ?_) | ((with_reducible show wpAny _ _ (Bind.checkArgs _ _ _) _ _ _); refine wpAny_of_eq (a := ()) (by kernel_rfl) ?_) | lk)
  refine ⟨Code.quiet_builtin _ (by decide +kernel), codeAny_builtin PySem.F.entry_list_pop ?_⟩
  unfold Builtin.«list.pop»
  have e1 : ((pre ++ [v]).toArray).isEmpty = false := by simp
  have e2 : (seqIndex? (-1) ((pre ++ [v]).toArray).size).bind (fun k => ((pre ++ [v]).toArray)[k]?.map (k, ·)) = some (pre.length, v) := by
    have : seqIndex? (-1) ((pre ++ [v]).toArray).size = some pre.length := by
      simp [seqIndex?]
      omega
    rw [this]
    simp
  repeat lk
  rw [if_neg (by rw [e1]; decide), e2]
  have hz : (pre ++ [v]).toArray.size ≤ sizeLine := by rw [sizeLine_eq]; simp; omega
  have er : ((pre ++ [v]).toArray).eraseIdxIfInBounds pre.length = pre.toArray := by
    apply Array.ext'
    simp [Array.eraseIdxIfInBounds, List.eraseIdx_append_of_length_le]
  refine wpAny_bind (wpAny_updateSeq hx rfl (wpAny_pure (h _ (Heap.SameBut.update ..) ?_)) hz ?_)
  · rw [Heap.get?_update_self _ hx (by rfl)]
    simp only [Obj.mapSeq, er]
    simp
  · rw [er, sizeLine_eq]; simp; omega
end
end Mine
end
section
namespace Mine
theorem top_off_W2b : True := by
  w_top off
  trivial
end Mine
open PySem PySem.W PyProof.Rows PySem.Calls
set_option maxRecDepth 100000
set_option maxHeartbeats 4000000
namespace Mine
noncomputable section
variable {w : World} {A A₀ : Around} {outer : List Env} {base h₀ : Heap} {L : Addr} {m mg mb : Str → Option Value} {mean : ExcName → Option Value} {env : Env} {news : List (Addr × Obj)} {s : Shared} {Q : Value → Shared → Prop} {E : Value → Shared → Prop} {LS : List Str}

theorem bound_init {prog : Program} {q x dx : Addr} {n : Nat} {Q E : Value → Shared → Prop} (hq : s.heap.get? q = some (boundObj "method-wrapper" "list.__init__" x)) (hx : s.heap.get? x = some (accObj dx [] n))
    (h : ∀ h', Heap.SameBut x s.heap h' → h'.get? x = some (accObj dx [] n) → Q .none { s with heap := h' }) : wpAny (model prog w) A (call (.ref q) []) Q E s := by
  obtain ⟨hh, g, d, t, os⟩ := s
  dsimp only at hq hx
  refine wpAny_call (codeAny_of_tree ?_)
  show wpAny _ _ (callAny (.ref q) _) _ _ _
  unfold callAny
  repeat lk
  refine ⟨Code.quiet_builtin _ (by decide +kernel), codeAny_builtin PySem.F.entry_list_init ?_⟩
  unfold Builtin.«list.__init__»
  repeat (first | ((with_reducible show wpAny _ _ (Builtin.List.listUpdate _ _) _ _ _); refine wpAny_updateSeq hx rfl ?_ (by simp) (by simp)) | lk)
  exact h _ (Heap.SameBut.update ..) (by rw [Heap.get?_update_self _ hx (by rfl)]; simp [Obj.mapSeq])

theorem append_acc {prog : Program} {x dx : Addr} {its : List Value} {v : Value} {n : Nat} {Q E : Value → Shared → Prop} (hx : s.heap.get? x = some (accObj dx its n)) (hi : Looks (model prog w) s.heap (isInstance (.ref x) (.type "list")) true)
    (hsz : its.length < 1000) (h : ∀ h', Heap.SameBut x s.heap h' → h'.get? x = some (accObj dx (its ++ [v]) (n + 1)) → Q .none { s with heap := h' }) : wpAny (model prog w) A (call (.builtin "list.append") [.ref x, v]) Q E s := by
  refine wpAny_call (codeAny_call_builtin (by decide +kernel) PySem.F.entry_list_append (kfo_check (i := "list.append") (owner := "list") (n := "append") (by decide +kernel) (by decide +kernel) hi (PySem.F.args_list_append_2 _ _) ?_))
  unfold Builtin.«list.append»
  have hz : its.toArray.size ≤ sizeLine := by rw [sizeLine_eq]; simp; omega
  refine wpAny_bind (m := selfAndOne _ _) (wpAny_pure ?_)
  refine wpAny_bind (wpAny_updateSeq hx rfl (wpAny_pure (h _ (Heap.SameBut.update ..) ?_)) hz (by rw [sizeLine_eq]; simp; omega))
  rw [Heap.get?_update_self _ hx (by rfl)]
  simp [Obj.mapSeq]

theorem acc_make {R : Result → Shared → Prop} (F : Fr h₀ L s.heap m) (N : News h₀ L s.heap news) (X₀ : (Mine.hd.heap_39 w.params).In h₀)
    (h : ∀ x dx h', Fr h₀ L h' m → News h₀ L h' ((x, accObj dx [] 0) :: (dx, dictOf [] 0) :: news) → (∀ p ∈ news, p.1 < dx) → dx < x →
      codeAny (model PySem.Challenge.rw_pe0139_01.row.prog w) (A.under (.builtin "type.__call__" ⟨[.ref 125], []⟩)) (.call (.ref 62) ⟨[.ref x], []⟩) (InitBack x R) { s with heap := h' }) :
    codeAny (model PySem.Challenge.rw_pe0139_01.row.prog w) A (.call (.ref 125) ⟨[], []⟩) R s := by
  have hfill : (Mine.hd.heap_39 w.params).In s.heap → PySem.Challenge.rw_pe0139_01.row.prog = PySem.Challenge.rw_pe0139_01.row.prog := by k_fill; intro _; rfl
  clear hfill
  obtain ⟨hh, g, d, t, os⟩ := s
  have X := X₀.keeps F.keep
  have hC := X 125 _ (by k_is)
  have Lcall : Looks (model PySem.Challenge.rw_pe0139_01.row.prog w) hh (specialOf (.ref 125) "__call__") (some (.builtin "type.__call__")) := looks_specialIn X (by k_is)
  have typ : Looks (model PySem.Challenge.rw_pe0139_01.row.prog w) hh (isInstance (.ref 125) (.type "type")) true := looks_instIn X (by k_is)
  have made : Looks (model PySem.Challenge.rw_pe0139_01.row.prog w) hh (Bind.madeBy (.ref 125)) (some "list.__new__") := Looks.of_peek X (by kernel_rfl)
  have stb : Looks (model PySem.Challenge.rw_pe0139_01.row.prog w) hh (Bind.staticBase (.ref 125)) (.ref 125) := Looks.of_peek X (by kernel_rfl)
  have subL : Looks (model PySem.Challenge.rw_pe0139_01.row.prog w) hh (isSubtype (.ref 125) (.type "list")) true := looks_subIn X (by k_is)
  have self : Looks (model PySem.Challenge.rw_pe0139_01.row.prog w) hh (isSubtype (.ref 125) (.ref 125)) true := looks_subIn X (by k_is)
  have isT : Looks (model PySem.Challenge.rw_pe0139_01.row.prog w) hh (isType (.ref 125)) true := Looks.of_peek X (by kernel_rfl)
  have ini : Looks (model PySem.Challenge.rw_pe0139_01.row.prog w) hh (typeLookup (.ref 125) "__init__") (some (.ref 62)) := looks_findIn X (by k_is)
  refine codeAny_of_tree ?_
  show wpAny _ _ (callAny (.ref 125) _) _ _ _
  refine nd_load hC ?_
  show wpAny _ _ (callAny.viaDunder (.ref 125) _) _ _ _
  unfold callAny.viaDunder
  refine wpAny_bind (Lcall.at ?_)
  dsimp only
  rw [tc_bind]
  refine wpAny_bind (wpAny_pure (wpAny_bind (wpAny_pure ?_)))
  refine wpAny_pure (a := Fin.again (.call (.builtin "type.__call__") ⟨[.ref 125], []⟩)) (And.intro rfl ?_)
  refine codeAny_call_builtin_at (Code.quiet_builtin _ (by decide +kernel)) entry_typeCall (check_slot tc_kind tc_split typ (tc_args _ _ _) ?_)
  unfold Builtin.«type.__call__»
  repeat (first | with_reducible refine wpAny_call ?_ | lk)
  refine codeAny_call_builtin_code (plainId_quiet PySem.F.plain_list_new _) ?_
  have k1 : builtinKind "list.__new__" = some .builtinFn := by decide +kernel
  have k2 : splitId "list.__new__" = some ("list", "__new__") := by decide +kernel
  simp only [checkBuiltinCall, k1, k2]
  repeat (first | ((with_reducible show wpAny _ _ (Bind.checkArgs _ _ _) _ _ _); refine wpAny_of_eq (a := ()) (by kernel_rfl) ?_) | lk)
  refine codeAny_builtin_stack PySem.F.entry_list_new rfl fun p st => ?_
  dsimp only
  rw [owner_list_new]
  repeat lk
  have kk : ∀ b o, hh.get? b = some o → ((hh.push (dictOf [] 0)).push (accObj hh.objs.size [] 0)).get? b = some o := fun b o e => Heap.get?_push_of_some _ (Heap.get?_push_of_some _ e)
  have hC2 := kk _ _ hC
  refine nd_load hC2 ?_
  have hx : ((hh.push (dictOf [] 0)).push (accObj hh.objs.size [] 0)).get? (hh.objs.size + 1) = some (accObj hh.objs.size [] 0) := by heap_get
  have t1 : Looks (model PySem.Challenge.rw_pe0139_01.row.prog w) ((hh.push (dictOf [] 0)).push (accObj hh.objs.size [] 0)) (typeOf (.ref (hh.objs.size + 1))) (.ref 125) := (Looks.ld hx).andThen .now
  have s1 := self.keeps kk
  have i1 := ini.keeps kk
  have b1 : Looks (model PySem.Challenge.rw_pe0139_01.row.prog w) ((hh.push (dictOf [] 0)).push (accObj hh.objs.size [] 0)) (bindSpecial (.ref 62) (.ref (hh.objs.size + 1))) (.ref 62, [.ref (hh.objs.size + 1)]) := bind_fn (X.keeps kk) _ (by k_is)
  have N' := (N.push F (dictOf [] 0)).push (F.push _) (accObj hh.objs.size [] 0)
  have hsz : (hh.push (dictOf [] 0)).objs.size = hh.objs.size + 1 := Heap.size_push ..
  rw [hsz] at N'
  have fin := h _ hh.objs.size _ ((F.push _).push _) N' (fun p hp => Heap.lt_size (N p hp).1) (Nat.lt_succ_self _)
  repeat lk
  rw [hsz]
  repeat (first | with_reducible refine wpAny_call ?_ | lk)
  refine codeAny_mono fin fun r s' z => ?_
  rcases r with e | (v | _ | _ | _) <;> first | exact z | exact z.elim | skip
  obtain ⟨rfl, z⟩ := z
  exact wpAny_pure (wpAny_pure z)
end
end Mine
end
section
namespace Mine
theorem top_off_W2s : True := by
  w_top off
  trivial
end Mine
open PySem PySem.W PyProof.Rows PySem.Calls
set_option maxRecDepth 100000
set_option maxHeartbeats 4000000
namespace Mine
noncomputable section
variable {w : World} {A A₀ : Around} {outer : List Env} {base h₀ : Heap} {L : Addr} {m mg mb : Str → Option Value} {mean : ExcName → Option Value} {env : Env} {news : List (Addr × Obj)} {s : Shared} {Q : Value → Shared → Prop} {E : Value → Shared → Prop} {LS : List Str}

/-- super().name, where the name is a built-in's of the base: the built-in bound to the object -/
theorem sb_method {prog : Program} {K : Frag} {so D x C : Addr} {ox : Obj} {odx : Option Obj} {name : Str} {id gid bt td : String} {pl : Sem Bool} {Q : Value × List Value → Shared → Prop} {E : Value → Shared → Prop}
    (F : Fr h₀ L s.heap m) (X₀ : K.In h₀) (N : News h₀ L s.heap news) (hso : (so, ks_superObj D x C) ∈ news) (I : InstAt s.heap x ox C odx) (ho : nsIn K cStatics "thirdparty.any" = some none)
    (hm : ks_superIn K C D name = some (some (.builtin id))) (hn : (name == ("__class__" : Str)) = false)
    (hty : typeOf (.builtin id) = pure (.type td)) (hlk : typeLookup (.type td) "__get__" = pure (some (.builtin gid)))
    (hcall : ∀ (A : Around) (Q : Value → Shared → Prop) (E : Value → Shared → Prop) (s : Shared), K.In s.heap → InstAt s.heap x ox C odx → Q (.ref s.heap.objs.size) { s with heap := s.heap.push (boundObj bt id x) } →
      wpAny (model prog w) A (call (.builtin gid) [.builtin id, .ref x, .ref C]) Q E s)
    (h : ∀ q h', Fr h₀ L h' m → News h₀ L h' ((q, boundObj bt id x) :: news) → (∀ p ∈ news, p.1 < q) → Q (.ref q, []) { s with heap := h', toks := s.toks + 1 }) :
    wpAny (model prog w) A (getMethod (.ref so) name pl) Q E s := by
  have X : K.In s.heap := X₀.keeps F.keep
  obtain ⟨hh, g, d, t, os⟩ := s
  cases hc : clsIn K C with
  | none => unfold ks_superIn at hm; rw [hc] at hm; cases hm
  | some cd =>
    unfold ks_superIn at hm
    rw [hc] at hm
    have hS := (N _ hso).1
    have hno := looks_opaque (M := model prog w) (C := C) X ho
    have hC : Looks (model prog w) hh (mroOf (.ref C)) cd.mro := fun A Q E s k q => wpAny_bind ((looks_clsIn X hc) A _ E s k (wpAny_pure q))
    have hxC := ks_ne X I hc
    have hne : (Value.ref x == Value.ref C) = false := by simp [hxC]
    have hlk2 := PySem.F.ks_slot_super_ga.lookup
    have hcan := PySem.F.ks_canon_super_ga
    have hT : ∀ t', (⟨hh, g, d, t', os⟩ : Shared).TypeIs (.ref so) "super" := fun _ => ⟨_, hS, rfl⟩
    have hdt : (ks_superObj D x C).data = .fields #[.ref D, .ref x, .ref C] := rfl
    have f0 : (#[.ref D, .ref x, .ref C] : Array Value)[0]? = some (.ref D) := rfl
    have f1 : (#[.ref D, .ref x, .ref C] : Array Value)[1]? = some (.ref x) := rfl
    have f2 : (#[.ref D, .ref x, .ref C] : Array Value)[2]? = some (.ref C) := rfl
    obtain ⟨F', N', l'⟩ := ks_newsPush (s := ⟨hh, g, d, t, os⟩) (o := boundObj bt id x) F N rfl (Heap.get?_push_at rfl rfl) (fun b o e => Heap.get?_push_of_some _ e)
    have fin := h _ _ F' N' l'
    unfold getMethod
    refine wpAny_bind (wpAny_specialOf (hT _) hlk2 ?_)
    show wpAny _ _ (if (Manifest.canonical "super.__getattribute__" != "object.__getattribute__") = true then _ else _) _ _ _
    rw [if_pos hcan]
    unfold getAttr getAttrBy
    refine wpAny_bind (wpAny_bind (wpAny_mkText (wpAny_holding (wpAny_bind (wpAny_typeOf (hT _) (wpAny_bind (wpAny_of_eq hlk2 ?_)))))))
    show wpAny _ _ (getAttrByItsOwn (.ref so) (.str name t) (.type "super") (.builtin "super.__getattribute__") true false) _ _ _
    unfold getAttrByItsOwn hookBefore callGetattribute boundAndCalled
    refine wpAny_bind (wpAny_of_eq (show (if onTheHeap (.type "super") then typeLookup (.type "super") "__getattr__" else pure none) = pure none from rfl) ?_)
    refine wpAny_bind (wpAny_attempt (wpAny_holding ?_))
    show wpAny _ _ (bindSpecial (.builtin "super.__getattribute__") (.ref so) >>= _) _ _ _
    refine wpAny_bind (wpAny_of_eq (PySem.F.ks_slot_super_ga.bind _) ?_)
    refine wpAny_mono (Q := fun v s' => v = .ref hh.objs.size ∧ s' = ⟨hh.push (boundObj bt id x), g, d, t + 1, os⟩) (E := fun _ _ => False)
      (wpAny_call_entry PySem.F.ks_slot_super_ga (hT _) PySem.F.ks_entry_super_ga ?_ (PySem.F.ks_gaArgs_super _ _)) (fun v s' hv => ?_) fun _ _ z => z.elim
    · unfold Builtin.«super.__getattribute__»
      repeat (first
        | (with_reducible refine wpAny_field hS hdt f0 ?_) | (with_reducible refine wpAny_field hS hdt f1 ?_) | (with_reducible refine wpAny_field hS hdt f2 ?_)
        | (with_reducible refine ks_wpAny_notOpaque hno ?_)
        | (with_reducible refine Looks.at hC ?_)
        | (refine ks_forIn_along X (fun _ _ => rfl) rfl ?_ hm)
        | (with_reducible refine wpAny_of_eq hty ?_)
        | (with_reducible refine wpAny_of_eq hlk ?_)
        | (refine hcall _ _ _ _ X I ?_)
        | (with_reducible refine ⟨_, rfl, ?_⟩)
        | (simp only [hn, hne, Bool.or_false, Bool.false_eq_true, if_false])
        | wp_step
        | dsimp only)
      all_goals exact ⟨trivial, trivial⟩
    · obtain ⟨rfl, rfl⟩ := hv
      exact wpAny_pure (wpAny_pure fin)

end
end Mine
end
section
namespace Mine
theorem top_off_W2c : True := by
  w_top off
  trivial
end Mine
open PySem PySem.W PyProof.Rows PySem.Calls
set_option maxRecDepth 100000
set_option maxHeartbeats 4000000
namespace Mine
noncomputable section
variable {w : World} {A A₀ : Around} {outer : List Env} {base h₀ : Heap} {L : Addr} {m mg mb : Str → Option Value} {mean : ExcName → Option Value} {env : Env} {news : List (Addr × Obj)} {s : Shared} {Q : Value → Shared → Prop} {E : Value → Shared → Prop} {LS : List Str}

theorem callWith_bi {M : Model} {q x : Addr} {bt id : String} {pos : Pos} {env : Env} (hq : s.heap.get? q = some (boundObj bt id x)) (hb : bt = "method-wrapper" ∨ bt = "builtin_function_or_method")
    (h : wpAny M A (call (.ref q) []) Q E s) : wpAny M A (callWith pos (.ref q) [] (backTo pos (starEach [] env)) []) Q E s := by
  refine callWith_of (P := fun h => h.get? q = some (boundObj bt id x)) rfl (fun h hP => ⟨.machine, .inr (.inl rfl), (Looks.ld (part := none) hP).andThen ?_⟩) (evalArgs_nil3 ⟨hq, h⟩)
  rcases hb with rfl | rfl <;> exact Looks.of_pure (by kernel_rfl)

theorem news_head {h h' : Heap} {x : Addr} {o o' : Obj} {rest : List (Addr × Obj)} (F : Fr h₀ L h m) (N : News h₀ L h ((x, o) :: rest)) (hap : ∀ p ∈ rest, p.1 ≠ x) (hs : Heap.SameBut x h h') (hx : h'.get? x = some o') :
    Fr h₀ L h' m ∧ News h₀ L h' ((x, o') :: rest) := by
  have D := N (x, o) (List.mem_cons_self ..)
  refine ⟨F.change hs D.2.1 D.2.2, fun p hp => ?_⟩
  rcases List.mem_cons.mp hp with rfl | hp
  · exact ⟨hx, D.2⟩
  · have z := N p (List.mem_cons_of_mem _ hp)
    exact ⟨(hs.2 _ (hap p hp)).trans z.1, z.2⟩

theorem part_count_call {x dx : Addr} {its : List Value} {n : Nat} {od : Obj} (B : Below A₀ base outer h₀) (F : Fr h₀ L s.heap m) (X : (Mine.hd.heap_39 w.params).In h₀) (N : News h₀ L s.heap news) (T : Top Mine.hd.view_39 LS mean mg mb h₀)
    (hA : A.frames = some (env :: outer)) (hf : env.frame = some L) (hke : env.scope.kind = .function) (hroom : A.depth < recursionLimit) (hx : (x, accObj dx its n) ∈ news) (hd : (dx, od) ∈ news)
    (h : ∀ h' tk t, Fr h₀ L h' m → News h₀ L h' news → Q (.int its.length t) { s with heap := h', toks := tk }) :
    wpAny (model PySem.Challenge.rw_pe0139_01.row.prog w) A (call (.ref 122) [.ref x]) Q E s := by
  have hfill : (Mine.hd.heap_39 w.params).In h₀ → PySem.Challenge.rw_pe0139_01.row.prog = PySem.Challenge.rw_pe0139_01.row.prog := by k_fill; intro _; rfl
  clear hfill
  refine wpAny_call ?_
  refine' ks_code_super B F X N T hA hf hke ?k6 ?k7 hroom ?k9 ?kB ?_ ?c1 ?c2 ?c3 ?c4
  case k6 => k_is
  case k7 => k_is
  case k9 => exact BindsTo.of_eq rfl
  case kB => exact locs rfl
  case c1 => decide
  case c2 => exact rfl
  case c3 => exact rfl
  case c4 => exact rfl
  intro g' L' h' FG' F' N' B' X' T' l1
  dsimp only
  refine ks_wpAt_execs_cons (ks_wpAt_Return_some (ks_wpAt_MethodCall ?_))
  refine ks_node (K := Mine.hd.heap_39 w.params) F' X' N' T' (by k_is) (by rfl) (by rfl) (accInst N' hx hd) (by k_is) (by rfl) (by first | rfl | decide +kernel) (by k_is) (by k_is) (by k_is) (by k_is) (by decide) (by rfl) (by rfl) (by rfl) (by rfl) (by decide +kernel) (by first | boot_by_name | rfl | kernel_rfl) ?_
  intro so h2 F2 N2 l2
  have isL : ∀ {h : Heap}, (Mine.hd.heap_39 w.params).In h → InstAt h x (accObj dx its n) 125 (some od) → Looks (model PySem.Challenge.rw_pe0139_01.row.prog w) h (isInstance (.ref x) (.type "list")) true := fun X I => I.type.andThen (looks_subIn X (by k_is))
  refine sb_method (id := "list.__len__") (bt := "method-wrapper") (td := "wrapper_descriptor") F2 X' N2 (List.mem_cons_self ..) (accInst N2 (List.mem_cons_of_mem _ hx) (List.mem_cons_of_mem _ hd)) (by k_is) (by ks_is) (by decide) type_len lk_wd (fun A Q E s X I q => get_len (isL X I) q) ?_
  intro q h3 F3 N3 l3
  refine callWith_bi (N3 _ (List.mem_cons_self ..)).1 (.inl rfl) ?_
  refine bound_len (N3 _ (List.mem_cons_self ..)).1 (N3 _ (List.mem_cons_of_mem _ (List.mem_cons_of_mem _ hx))).1 (isL (X'.keeps F3.keep) (accInst N3 (List.mem_cons_of_mem _ (List.mem_cons_of_mem _ hx)) (List.mem_cons_of_mem _ (List.mem_cons_of_mem _ hd)))) fun tk t => ?_
  dsimp only
  refine leaveK_ F3 N3 fun F4 N4 => ?_
  exact h _ _ _ F4 fun p hp => N4 p (List.mem_cons_of_mem _ (List.mem_cons_of_mem _ hp))
end
end Mine
end
section
namespace Mine
theorem top_off_W2d : True := by
  w_top off
  trivial
end Mine
open PySem PySem.W PyProof.Rows PySem.Calls
set_option maxRecDepth 100000
set_option maxHeartbeats 4000000
namespace Mine
noncomputable section
variable {w : World} {A A₀ : Around} {outer : List Env} {base h₀ : Heap} {L : Addr} {m mg mb : Str → Option Value} {mean : ExcName → Option Value} {env : Env} {news : List (Addr × Obj)} {s : Shared} {Q : Value → Shared → Prop} {E : Value → Shared → Prop} {LS : List Str}

theorem method_bi {prog : Program} {K : Frag} {x C : Addr} {ox : Obj} {od : Option Obj} {name : Str} {f : Value} {ga td : String} {pl : Sem Bool} {Q : Value × List Value → Shared → Prop} {E : Value → Shared → Prop} (X : K.In s.heap) (I : InstAt s.heap x ox C od)
    (hga : findIn K (.ref C) "__getattribute__" = some (some (.builtin ga))) (hcan : (Manifest.canonical ga != "object.__getattribute__") = false) (hk : findIn K (.ref C) "__getattr__" = some none)
    (hf : findIn K (.ref C) name = some (some f)) (ht : typeIn K f = some (.type td)) (htd : (Value.type td != .type "function" && Value.type td != .type "method_descriptor" && Value.type td != .type "wrapper_descriptor") = false) (hs : shadowIn od name = some false) (h : Q (f, [.ref x]) s) :
    wpAny (model prog w) A (getMethod (.ref x) name pl) Q E s := by
  unfold getMethod specialOf
  refine wpAny_bind (wpAny_bind (I.type.here ((looks_findIn X hga).here ?_)))
  dsimp only
  rw [hcan, if_neg (by decide)]
  refine wpAny_bind (wpAny_bind (I.type.here ((looks_findIn X hk).here ?_)))
  refine wpAny_bind (wpAny_bind (I.type.here ((looks_findIn X hf).here (wpAny_bind ((looks_typeIn X ht).here ?_)))))
  rw [if_neg (by rw [htd]; decide)]
  refine wpAny_bind (wpAny_loadPart I.at_ ?_)
  have hd := I.dict
  cases e : ox.dict with
  | none => exact wpAny_bind (wpAny_rule (wpAny_pure h))
  | some dx =>
    cases od with
    | none => rw [e] at hd; exact hd.elim
    | some o =>
      rw [e] at hd
      obtain ⟨r, a, b⟩ := Option.map_eq_some_iff.mp hs
      refine wpAny_bind (wpAny_bind (wpAny_loadPart hd ?_))
      rw [nsLook_of a]
      refine wpAny_pure ?_
      rw [b]
      exact wpAny_bind (wpAny_rule (wpAny_pure h))

abbrev tupObj (vs : List Value) : Obj := { cls := .type "tuple", data := .seq vs.toArray }

theorem push_call {x dx : Addr} {its : List Value} {n : Nat} {es : List DictEntry} {en : Nat} {rest : List (Addr × Obj)} {a b : Str} {ta tb : Tok} (B : Below A₀ base outer h₀) (F : Fr h₀ L s.heap m) (X : (Mine.hd.heap_39 w.params).In h₀) (N : News h₀ L s.heap ((x, accObj dx its n) :: rest)) (T : Top Mine.hd.view_39 LS mean mg mb h₀)
    (hA : A.frames = some (env :: outer)) (hf : env.frame = some L) (hke : env.scope.kind = .function) (hroom : A.depth < recursionLimit) (hd : (dx, dictOf es en) ∈ rest) (hap : ∀ p ∈ rest, p.1 ≠ x) (hes : getL "append" es = some none) (hsz : its.length < 1000)
    (h : ∀ q h' tk, Fr h₀ L h' m → News h₀ L h' ((x, accObj dx (its ++ [.ref q]) (n + 1)) :: (q, tupObj [.str a ta, .str b tb]) :: rest) → q ≠ x → (∀ p ∈ rest, p.1 ≠ q) → Q .none { s with heap := h', toks := tk }) :
    wpAny (model PySem.Challenge.rw_pe0139_01.row.prog w) A (call (.ref 69) [.ref x, .str a ta, .str b tb]) Q E s := by
  have hfill : (Mine.hd.heap_39 w.params).In h₀ → PySem.Challenge.rw_pe0139_01.row.prog = PySem.Challenge.rw_pe0139_01.row.prog := by k_fill; intro _; rfl
  clear hfill
  refine wpAny_call ?_
  refine' code_def B F X N T hA hf hke ?k6 ?k7 hroom ?k9 ?kB ?_ ?c2 ?c3 ?c4 ?c5
  case k6 => k_is
  case k7 => k_is
  case k9 => exact BindsTo.of_eq rfl
  case kB => exact locs rfl
  case c2 => exact rfl
  case c3 => exact rfl
  case c4 => exact rfl
  case c5 => decide
  intro g' L' h' FG' F' N' B' X' T'
  dsimp only
  iterate 4 (first | walk1 | (dsimp only; walk1))
  iterate 1 (first | walk1 | (dsimp only; walk1))
  refine method_bi (K := Mine.hd.heap_39 w.params) (X'.keeps F'.keep) (accInst N' (List.mem_cons_self ..) (List.mem_cons_of_mem _ hd)) (by k_is) (by decide +kernel) (by k_is) (by k_is) (by k_is) (by decide +kernel) ?_ ?_
  · show (lookIn "append" (dictOf es en)).map _ = _
    rw [lookIn_dict, hes]; rfl
  iterate 8 (first | walk1 | (dsimp only; walk1))
  refine newTuple_N F' N' ?_ (by rw [sizeLine_eq]; simp)
  intro h2 F2 N2
  iterate 1 (first | walk1 | (dsimp only; walk1))
  have N3 : News g' L' h2 ((x, accObj dx its n) :: (h'.objs.size, tupObj [.str a ta, .str b tb]) :: rest) := fun p hp => by
    refine N2 p ?_
    rcases List.mem_cons.mp hp with rfl | hp
    · exact List.mem_cons_of_mem _ (List.mem_cons_self ..)
    · rcases List.mem_cons.mp hp with rfl | hp
      · exact List.mem_cons_self ..
      · exact List.mem_cons_of_mem _ (List.mem_cons_of_mem _ hp)
  have hqx : h'.objs.size ≠ x := Nat.ne_of_gt (Heap.lt_size (N' _ (List.mem_cons_self ..)).1)
  have hqr : ∀ p ∈ rest, p.1 ≠ h'.objs.size := fun p hp => Nat.ne_of_lt (Heap.lt_size (N' p (List.mem_cons_of_mem _ hp)).1)
  have I3 := accInst N3 (List.mem_cons_self ..) (List.mem_cons_of_mem _ (List.mem_cons_of_mem _ hd))
  refine append_acc (N3 _ (List.mem_cons_self ..)).1 (I3.type.andThen (looks_subIn (X'.keeps F2.keep) (by k_is))) hsz fun h3 hs hx3 => ?_
  obtain ⟨F3, N4⟩ := news_head F2 N3 (fun p hp => by
    rcases List.mem_cons.mp hp with rfl | hp
    · exact hqx
    · exact hap p hp) hs hx3
  refine wpAny_execs_nil ?_
  refine leaveK_ F3 N4 fun F5 N5 => ?_
  exact h _ _ _ F5 N5 hqx hqr
end
end Mine
end
section
namespace Mine
theorem top_off_W2e : True := by
  w_top off
  trivial
end Mine
open PySem PySem.W PyProof.Rows PySem.Calls
set_option maxRecDepth 100000
set_option maxHeartbeats 4000000
namespace Mine
noncomputable section
variable {w : World} {A A₀ : Around} {outer : List Env} {base h₀ : Heap} {L : Addr} {m mg mb : Str → Option Value} {mean : ExcName → Option Value} {env : Env} {news : List (Addr × Obj)} {s : Shared} {Q : Value → Shared → Prop} {E : Value → Shared → Prop} {LS : List Str}

theorem pop_call {x dx : Addr} {pre : List Value} {v : Value} {n : Nat} {es : List DictEntry} {en : Nat} {rest : List (Addr × Obj)} (B : Below A₀ base outer h₀) (F : Fr h₀ L s.heap m) (X : (Mine.hd.heap_39 w.params).In h₀) (N : News h₀ L s.heap ((x, accObj dx (pre ++ [v]) n) :: rest)) (T : Top Mine.hd.view_39 LS mean mg mb h₀)
    (hA : A.frames = some (env :: outer)) (hf : env.frame = some L) (hke : env.scope.kind = .function) (hroom : A.depth + 1 < recursionLimit) (hd : (dx, dictOf es en) ∈ rest) (hap : ∀ p ∈ rest, p.1 ≠ x) (hes : getL "part_count" es = some none) (hsz : pre.length < 1000)
    (h : ∀ h' tk, Fr h₀ L h' m → News h₀ L h' ((x, accObj dx pre (n + 1)) :: rest) → Q v { s with heap := h', toks := tk }) :
    wpAny (model PySem.Challenge.rw_pe0139_01.row.prog w) A (call (.ref 85) [.ref x]) Q E s := by
  have hfill : (Mine.hd.heap_39 w.params).In h₀ → PySem.Challenge.rw_pe0139_01.row.prog = PySem.Challenge.rw_pe0139_01.row.prog := by k_fill; intro _; rfl
  clear hfill
  refine wpAny_call ?_
  refine' ks_code_super B F X N T hA hf hke ?k6 ?k7 (Nat.lt_of_succ_lt hroom) ?k9 ?kB ?_ ?c1 ?c2 ?c3 ?c4
  case k6 => k_is
  case k7 => k_is
  case k9 => exact BindsTo.of_eq rfl
  case kB => exact locs rfl
  case c1 => decide
  case c2 => exact rfl
  case c3 => exact rfl
  case c4 => exact rfl
  intro g' L' h' FG' F' N' B' X' T' l1
  dsimp only
  have hm := List.mem_cons_self (a := (x, accObj dx (pre ++ [v]) n)) (l := rest)
  refine ks_wpAt_execs_cons (wpAt_of_wpAny ?_)
  iterate 4 (first | walk1 | (dsimp only; walk1))
  refine method_bi (K := Mine.hd.heap_39 w.params) (X'.keeps F'.keep) (accInst N' hm (List.mem_cons_of_mem _ hd)) (by k_is) (by decide +kernel) (by k_is) (by k_is) (by k_is) (by decide +kernel) ?_ ?_
  · show (lookIn "part_count" (dictOf es en)).map _ = _
    rw [lookIn_dict, hes]; rfl
  iterate 1 (first | walk1 | (dsimp only; walk1))
  refine part_count_call B' F' X' N' T' (Around.frames_deeper hA) rfl rfl (by exact hroom) hm (List.mem_cons_of_mem _ hd) ?_
  intro h2 tk2 t2 F2 N2
  have hlen : (0 : Int) < ((pre ++ [v]).length : Int) := by simp
  iterate 4 (first | walk1 | (dsimp only; walk1))
  · exfalso; omega
  refine wpAny_execs_nil ?_
  dsimp only
  refine ks_wpAt_execs_cons (ks_wpAt_Return_some (ks_wpAt_MethodCall ?_))
  refine ks_node (K := Mine.hd.heap_39 w.params) F2 X' N2 T' (by k_is) (by rfl) (by rfl) (accInst N2 hm (List.mem_cons_of_mem _ hd)) (by k_is) (by rfl) (by first | rfl | decide +kernel) (by k_is) (by k_is) (by k_is) (by k_is) (by decide) (by rfl) (by rfl) (by rfl) (by rfl) (by decide +kernel) (by first | boot_by_name | rfl | kernel_rfl) ?_
  intro so h3 F3 N3 l3
  have isL : ∀ {h : Heap}, (Mine.hd.heap_39 w.params).In h → InstAt h x (accObj dx (pre ++ [v]) n) 125 (some (dictOf es en)) → Looks (model PySem.Challenge.rw_pe0139_01.row.prog w) h (isInstance (.ref x) (.type "list")) true := fun X I => I.type.andThen (looks_subIn X (by k_is))
  refine sb_method (id := "list.pop") (bt := "builtin_function_or_method") (td := "method_descriptor") F3 X' N3 (List.mem_cons_self ..) (accInst N3 (List.mem_cons_of_mem _ hm) (List.mem_cons_of_mem _ (List.mem_cons_of_mem _ hd))) (by k_is) (by ks_is) (by decide) PySem.F.type_list_pop lk_md (fun A Q E s X I q => get_pop (isL X I) q) ?_
  intro q h4 F4 N4 l4
  refine callWith_bi (N4 _ (List.mem_cons_self ..)).1 (.inr rfl) ?_
  have hm4 := List.mem_cons_of_mem (q, boundObj "builtin_function_or_method" "list.pop" x) (List.mem_cons_of_mem (so, ks_superObj 125 x 125) hm)
  have hd4 := List.mem_cons_of_mem (q, boundObj "builtin_function_or_method" "list.pop" x) (List.mem_cons_of_mem (so, ks_superObj 125 x 125) (List.mem_cons_of_mem (x, accObj dx (pre ++ [v]) n) hd))
  have X4 := X'.keeps F4.keep
  refine bound_pop (N4 _ (List.mem_cons_self ..)).1 (N4 _ hm4).1 X4 ((accInst N4 hm4 hd4).type.andThen (looks_subIn X4 (by k_is))) hsz fun h5 hs hx5 => ?_
  have N4' : News g' L' h4 ((x, accObj dx (pre ++ [v]) n) :: rest) := fun p hp => N4 p (List.mem_cons_of_mem _ (List.mem_cons_of_mem _ hp))
  obtain ⟨F6, N6⟩ := news_head F4 N4' hap hs hx5
  dsimp only
  exact leaveK_ F6 N6 fun F7 N7 => h _ _ F7 N7
end
end Mine
end
section
namespace Mine
theorem top_off_W2f : True := by
  w_top off
  trivial
end Mine
open PySem PySem.W PyProof.Rows PySem.Calls
set_option maxRecDepth 100000
set_option maxHeartbeats 4000000
namespace Mine
noncomputable section
variable {w : World} {A A₀ : Around} {outer : List Env} {base h₀ : Heap} {L : Addr} {m mg mb : Str → Option Value} {mean : ExcName → Option Value} {env : Env} {news : List (Addr × Obj)} {s : Shared} {Q : Value → Shared → Prop} {E : Value → Shared → Prop} {LS : List Str}

theorem pop_nil {x dx : Addr} {n : Nat} {es : List DictEntry} {en : Nat} {rest : List (Addr × Obj)} (B : Below A₀ base outer h₀) (F : Fr h₀ L s.heap m) (X : (Mine.hd.heap_39 w.params).In h₀) (N : News h₀ L s.heap ((x, accObj dx [] n) :: rest)) (T : Top Mine.hd.view_39 LS mean mg mb h₀)
    (hA : A.frames = some (env :: outer)) (hf : env.frame = some L) (hke : env.scope.kind = .function) (hroom : A.depth + 1 < recursionLimit) (hd : (dx, dictOf es en) ∈ rest) (hes : getL "part_count" es = some none)
    (h : ∀ q h' tk t1 t2, Fr h₀ L h' m → News h₀ L h' ((q, tupObj [.str (Str.ofString "") t1, .str (Str.ofString "") t2]) :: (x, accObj dx [] n) :: rest) → (∀ p ∈ (x, accObj dx [] n) :: rest, p.1 ≠ q) → Q (.ref q) { s with heap := h', toks := tk }) :
    wpAny (model PySem.Challenge.rw_pe0139_01.row.prog w) A (call (.ref 85) [.ref x]) Q E s := by
  have hfill : (Mine.hd.heap_39 w.params).In h₀ → PySem.Challenge.rw_pe0139_01.row.prog = PySem.Challenge.rw_pe0139_01.row.prog := by k_fill; intro _; rfl
  clear hfill
  refine wpAny_call ?_
  refine' ks_code_super B F X N T hA hf hke ?k6 ?k7 (Nat.lt_of_succ_lt hroom) ?k9 ?kB ?_ ?c1 ?c2 ?c3 ?c4
  case k6 => k_is
  case k7 => k_is
  case k9 => exact BindsTo.of_eq rfl
  case kB => exact locs rfl
  case c1 => decide
  case c2 => exact rfl
  case c3 => exact rfl
  case c4 => exact rfl
  intro g' L' h' FG' F' N' B' X' T' l1
  dsimp only
  have hm := List.mem_cons_self (a := (x, accObj dx [] n)) (l := rest)
  refine ks_wpAt_execs_cons (wpAt_of_wpAny ?_)
  iterate 4 (first | walk1 | (dsimp only; walk1))
  refine method_bi (K := Mine.hd.heap_39 w.params) (X'.keeps F'.keep) (accInst N' hm (List.mem_cons_of_mem _ hd)) (by k_is) (by decide +kernel) (by k_is) (by k_is) (by k_is) (by decide +kernel) ?_ ?_
  · show (lookIn "part_count" (dictOf es en)).map _ = _
    rw [lookIn_dict, hes]; rfl
  iterate 1 (first | walk1 | (dsimp only; walk1))
  refine part_count_call B' F' X' N' T' (Around.frames_deeper hA) rfl rfl (by exact hroom) hm (List.mem_cons_of_mem _ hd) ?_
  intro h2 tk2 t2 F2 N2
  iterate 4 (first | walk1 | (dsimp only; walk1))
  iterate 9 (first | walk1 | (dsimp only; walk1))
  refine newTuple_N F2 N2 ?_ (by rw [sizeLine_eq]; simp)
  intro h3 F3 N3
  dsimp only
  refine leaveK_ F3 N3 fun F4 N4 => ?_
  exact h _ _ _ _ _ F4 N4 fun p hp => Nat.ne_of_lt (Heap.lt_size (N2 p hp).1)

theorem refuse_acc (self : Value) : refuseLoop self "__setattr__" [.ref 125, .type "list", .type "object"] = pure () := by
  rw [refuseLoop_ref]
  unfold refuseLoop
  kernel_rfl

theorem acc_setattr {prog : Program} {K : Frag} {x dx C : Addr} {ox : Obj} {name : Str} {v : Value} {cd : ClassData} {rest : List (Addr × Obj)} {Q : Unit → Shared → Prop} {E : Value → Shared → Prop} (F : Fr h₀ L s.heap m) (X : K.In s.heap) (N : News h₀ L s.heap ((dx, dictOf [] 0) :: rest)) (hap : ∀ p ∈ rest, p.1 ≠ dx)
    (I : InstAt s.heap x ox C (some (dictOf [] 0))) (hox : ox.dict = some dx) (hs : findIn K (.ref C) "__setattr__" = some (some (.builtin "object.__setattr__")))
    (hc : clsIn K C = some cd) (hm : cd.mro = [.ref 125, .type "list", .type "object"]) (hdict : cd.hasDict = true) (hobj : subIn K (.ref C) (.type "object") = some true) (hn : findIn K (.ref C) name = some none)
    (h : ∀ h' e1, e1.key = .str name (s.toks + 1) → e1.val = v → Fr h₀ L h' m → News h₀ L h' ((dx, dictOf [e1] 1) :: rest) → Q () { s with heap := h', toks := s.toks + 1 + 1 }) :
    wpAny (model prog w) A (setAttr (.ref x) name v) Q E s := by
  obtain ⟨hh, g, d, t, os⟩ := s
  refine set_plain X I hs ?_
  dsimp only at X I F N
  have SF := PySem.F.store_object
  have sub : Looks (model prog w) hh (isInstance (.ref x) (.type "object")) true := I.type.andThen (looks_subIn X hobj)
  refine codeAny_call_builtin SF.slot.plain SF.entry (@check_slot (model prog w) _ _ ⟨hh, g, d, t + 1, os⟩ "object.__setattr__" "object" "__setattr__" (.ref x) [.str name t, v] [] _ SF.kind SF.split sub (SF.args (.ref x) (.str name t) v) ?_)
  have hmr : Looks (model prog w) hh (mroOf (.ref C)) cd.mro := (looks_clsIn X hc).andThen .now
  rw [osa_eq, refuse_eq]
  refine wpAny_bind (wpAny_bind (I.type.at (wpAny_bind (hmr.at ?_))))
  rw [hm, refuse_acc]
  refine wpAny_pure (wpAny_bind (I.type.at (wpAny_bind ((looks_findIn X hn).at (wpAny_bind (wpAny_pure ?_))))))
  show wpAny _ _ (Builtin.ObjectAttr.storeInOwnDict (Value.ref x) (Value.ref C) (Value.str name t) name v false) _ _ _
  have ep : Obj.putName name (PyData.keyHash w.params name) (.str name (t + 1)) v (dictOf [] 0) = dictOf [⟨PyData.keyHash w.params name, .str name (t + 1), v⟩] 1 := by
    rw [putName_dict]; rfl
  obtain ⟨U1, U2⟩ := news_upd (pre := []) (f := Obj.putName name (PyData.keyHash w.params name) (.str name (t + 1)) v) F N (by simp) hap ep rfl
  have D := (N (dx, dictOf [] 0) (List.mem_cons_self ..)).1
  have D' := (U2 (dx, _) (List.mem_cons_self ..)).1
  obtain ⟨hx, hcl, hno, -⟩ := I
  obtain ⟨oc, odi, oda, osl⟩ := ox
  dsimp only at hcl hox
  subst hcl hox
  refine wpAny_bind (wpAny_pure (wpAny_bind (wpAny_bind (wpAny_loadPart hx (wpAny_bind ((looks_clsIn X hc).at ?_))))))
  rw [hdict]
  refine wpAny_pure (a := some dx) (wpAny_bind (wpAny_pure (wpAny_bind ?_)))
  unfold nsSet
  refine wpAny_bind (wpAny_bind (wpAny_askSetting (wpAny_pure (wpAny_bind (wpAny_mkText (wpAny_bind (wpAny_loadPart D ?_)))))))
  dsimp only
  have c : (!(([] : List DictEntry).toArray).any (·.key.isStr name) && (([] : List DictEntry).toArray).any (·.refKey)) = false := by simp
  rw [aRefKeyMayBeTheName_at, c]
  refine wpAny_updatePart D ?_
  refine wpAny_bind (wpAny_lookBehind D' (pastItsLine_dict (by rw [sizeLine_eq]; simp)) ?_)
  exact wpAny_pure (h _ _ rfl rfl U1 U2)

theorem make_call (B : Below A₀ base outer h₀) (F : Fr h₀ L s.heap m) (X : (Mine.hd.heap_39 w.params).In h₀) (N : News h₀ L s.heap news) (T : Top Mine.hd.view_39 LS mean mg mb h₀)
    (hA : A.frames = some (env :: outer)) (hf : env.frame = some L) (hke : env.scope.kind = .function) (hroom : A.depth + 1 < recursionLimit)
    (h : ∀ x dx h' tk e1 t1, e1.key = .str (Str.ofString "_initial_size") t1 → Fr h₀ L h' m → News h₀ L h' ((x, accObj dx [] 0) :: (dx, dictOf [e1] 1) :: news) → (∀ p ∈ news, p.1 < dx) → dx < x → Q (.ref x) { s with heap := h', toks := tk }) :
    wpAny (model PySem.Challenge.rw_pe0139_01.row.prog w) A (call (.ref 125) []) Q E s := by
  refine wpAny_call (acc_make F N X ?_)
  intro x dx h1 F1 N1 l1 l2
  refine' ks_code_super B F1 X N1 T ?kA hf hke ?k6 ?k7 ?k8 ?k9 ?kB ?_ ?c1 ?c2 ?c3 ?c4
  case kA => exact hA
  case k6 => k_is
  case k7 => k_is
  case k8 => exact hroom
  case k9 => exact binds_K (X.keeps F1.keep) rfl (by k_is) rfl rfl rfl
  case kB => exact locs rfl
  case c1 => decide
  case c2 => exact rfl
  case c3 => exact rfl
  case c4 => exact rfl
  intro g' L' h' FG' F' N' B' X' T' l3
  dsimp only
  refine ks_wpAt_execs_cons (wpAt_of_wpAny ?_)
  iterate 3 (first | walk1 | (dsimp only; walk1))
  have hdxx : dx ≠ x := Nat.ne_of_lt l2
  have N2 : News g' L' h' ((dx, dictOf [] 0) :: (x, accObj dx [] 0) :: news) := fun p hp => N' p (by
    rcases List.mem_cons.mp hp with rfl | hp
    · exact List.mem_cons_of_mem _ (List.mem_cons_self ..)
    · rcases List.mem_cons.mp hp with rfl | hp
      · exact List.mem_cons_self ..
      · exact List.mem_cons_of_mem _ (List.mem_cons_of_mem _ hp))
  refine acc_setattr (K := Mine.hd.heap_39 w.params) (dx := dx) F' (X'.keeps F'.keep) N2 (fun p hp => ?_) (accInst N' (List.mem_cons_self ..) (List.mem_cons_of_mem _ (List.mem_cons_self ..))) rfl (by k_is) (by k_is) rfl rfl (by k_is) (by k_is) ?_
  · rcases List.mem_cons.mp hp with rfl | hp
    · exact hdxx.symm
    · exact Nat.ne_of_lt (l1 p hp)
  intro h2 e1 ek ev F3 N3
  dsimp only
  have hmx : (x, accObj dx [] 0) ∈ (dx, dictOf [e1] 1) :: (x, accObj dx [] 0) :: news := List.mem_cons_of_mem _ (List.mem_cons_self ..)
  have hmd : (dx, dictOf [e1] 1) ∈ (dx, dictOf [e1] 1) :: (x, accObj dx [] 0) :: news := List.mem_cons_self ..
  refine ks_wpAt_execs_cons (ks_wpAt_Expr_any (ks_wpAt_MethodCall ?_))
  refine ks_node (K := Mine.hd.heap_39 w.params) F3 X' N3 T' (by k_is) (by rfl) (by rfl) (accInst N3 hmx hmd) (by k_is) (by rfl) (by first | rfl | decide +kernel) (by k_is) (by k_is) (by k_is) (by k_is) (by decide) (by rfl) (by rfl) (by rfl) (by rfl) (by decide +kernel) (by first | boot_by_name | rfl | kernel_rfl) ?_
  intro so h4 F4 N4 l4
  have isL : ∀ {h : Heap}, (Mine.hd.heap_39 w.params).In h → InstAt h x (accObj dx [] 0) 125 (some (dictOf [e1] 1)) → Looks (model PySem.Challenge.rw_pe0139_01.row.prog w) h (isInstance (.ref x) (.type "list")) true := fun X I => I.type.andThen (looks_subIn X (by k_is))
  refine sb_method (id := "list.__init__") (bt := "method-wrapper") (td := "wrapper_descriptor") F4 X' N4 (List.mem_cons_self ..) (accInst N4 (List.mem_cons_of_mem _ hmx) (List.mem_cons_of_mem _ hmd)) (by k_is) (by ks_is) (by decide) type_init lk_wd (fun A Q E s X I q => get_init (isL X I) q) ?_
  intro q h5 F5 N5 l5
  refine callWith_bi (N5 _ (List.mem_cons_self ..)).1 (.inl rfl) ?_
  refine bound_init (N5 _ (List.mem_cons_self ..)).1 (N5 _ (List.mem_cons_of_mem _ (List.mem_cons_of_mem _ hmx))).1 fun h6 hs hx6 => ?_
  have N5' : News g' L' h5 ((x, accObj dx [] 0) :: (dx, dictOf [e1] 1) :: news) := fun p hp => N5 p (List.mem_cons_of_mem _ (List.mem_cons_of_mem _ (by
    rcases List.mem_cons.mp hp with rfl | hp
    · exact hmx
    · rcases List.mem_cons.mp hp with rfl | hp
      · exact hmd
      · exact List.mem_cons_of_mem _ (List.mem_cons_of_mem _ hp))))
  obtain ⟨F7, N7⟩ := news_head F5 N5' (fun p hp => by
    rcases List.mem_cons.mp hp with rfl | hp
    · exact hdxx
    · exact Nat.ne_of_lt (Nat.lt_trans (l1 p hp) l2)) hs hx6
  refine wpAt_of_wpAny (wpAny_execs_nil ?_)
  refine leaveK_ F7 N7 fun F8 N8 => ⟨rfl, ?_⟩
  exact h _ _ _ _ _ _ ek F8 N8 l1 l2
end
end Mine
end
section
namespace Mine
theorem top_off_W2g : True := by
  w_top off
  trivial
end Mine
open PySem PySem.W PyProof.Rows PySem.Calls
set_option maxRecDepth 100000
set_option maxHeartbeats 4000000
namespace Mine
noncomputable section
variable {w : World} {A A₀ : Around} {outer : List Env} {base h₀ : Heap} {L : Addr} {m mg mb : Str → Option Value} {mean : ExcName → Option Value} {env : Env} {news : List (Addr × Obj)} {s : Shared} {Q : Value → Shared → Prop} {E : Value → Shared → Prop} {LS : List Str}


theorem iseof_call {z : Int} {t : Tok} (B : Below A₀ base outer h₀) (F : Fr h₀ L s.heap m) (X : (Mine.hd.heap_39 w.params).In h₀) (N : News h₀ L s.heap news) (T : Top Mine.hd.view_39 LS mean mg mb h₀)
    (hA : A.frames = some (env :: outer)) (hf : env.frame = some L) (hke : env.scope.kind = .function) (hroom : A.depth < recursionLimit)
    (h : ∀ b h' tk, (b = true ↔ z = 0) → Fr h₀ L h' m → News h₀ L h' news → Q (.bool b) { s with heap := h', toks := tk }) :
    wpAny (model PySem.Challenge.rw_pe0139_01.row.prog w) A (call (.ref 45) [.int z t]) Q E s := by
  have hfill : (Mine.hd.heap_39 w.params).In h₀ → PySem.Challenge.rw_pe0139_01.row.prog = PySem.Challenge.rw_pe0139_01.row.prog := by k_fill; intro _; rfl
  clear hfill
  refine wpAny_call ?_
  refine' code_def B F X N T hA hf hke ?k6 ?k7 hroom ?k9 ?kB ?_ ?c2 ?c3 ?c4 ?c5
  case k6 => k_is
  case k7 => k_is
  case k9 => exact BindsTo.of_eq rfl
  case kB => exact locs rfl
  case c2 => exact rfl
  case c3 => exact rfl
  case c4 => exact rfl
  case c5 => decide
  intro g' L' h' FG' F' N' B' X' T'
  dsimp only
  iterate 7 (first | walk1 | (dsimp only; walk1))
  dsimp only
  refine leaveK_ F' N' fun F2 N2 => ?_
  exact h _ _ _ (by simp) F2 N2

theorem isnon_call {z : Int} {t : Tok} (B : Below A₀ base outer h₀) (F : Fr h₀ L s.heap m) (X : (Mine.hd.heap_39 w.params).In h₀) (N : News h₀ L s.heap news) (T : Top Mine.hd.view_39 LS mean mg mb h₀)
    (hA : A.frames = some (env :: outer)) (hf : env.frame = some L) (hke : env.scope.kind = .function) (hroom : A.depth < recursionLimit)
    (h : ∀ b h' tk, (b = true ↔ 256 ≤ z) → Fr h₀ L h' m → News h₀ L h' news → Q (.bool b) { s with heap := h', toks := tk }) :
    wpAny (model PySem.Challenge.rw_pe0139_01.row.prog w) A (call (.ref 38) [.int z t]) Q E s := by
  have hfill : (Mine.hd.heap_39 w.params).In h₀ → PySem.Challenge.rw_pe0139_01.row.prog = PySem.Challenge.rw_pe0139_01.row.prog := by k_fill; intro _; rfl
  clear hfill
  refine wpAny_call ?_
  refine' code_def B F X N T hA hf hke ?k6 ?k7 hroom ?k9 ?kB ?_ ?c2 ?c3 ?c4 ?c5
  case k6 => k_is
  case k7 => k_is
  case k9 => exact BindsTo.of_eq rfl
  case kB => exact locs rfl
  case c2 => exact rfl
  case c3 => exact rfl
  case c4 => exact rfl
  case c5 => decide
  intro g' L' h' FG' F' N' B' X' T'
  dsimp only
  iterate 7 (first | walk1 | (dsimp only; walk1))
  dsimp only
  refine leaveK_ F' N' fun F2 N2 => ?_
  exact h _ _ _ (by simp) F2 N2

theorem isterm_call {z : Int} {t : Tok} (B : Below A₀ base outer h₀) (F : Fr h₀ L s.heap m) (X : (Mine.hd.heap_39 w.params).In h₀) (N : News h₀ L s.heap news) (T : Top Mine.hd.view_39 LS mean mg mb h₀)
    (hA : A.frames = some (env :: outer)) (hf : env.frame = some L) (hke : env.scope.kind = .function) (hroom : A.depth < recursionLimit)
    (h : ∀ b h' tk, (b = true ↔ z < 256) → Fr h₀ L h' m → News h₀ L h' news → Q (.bool b) { s with heap := h', toks := tk }) :
    wpAny (model PySem.Challenge.rw_pe0139_01.row.prog w) A (call (.ref 31) [.int z t]) Q E s := by
  have hfill : (Mine.hd.heap_39 w.params).In h₀ → PySem.Challenge.rw_pe0139_01.row.prog = PySem.Challenge.rw_pe0139_01.row.prog := by k_fill; intro _; rfl
  clear hfill
  refine wpAny_call ?_
  refine' code_def B F X N T hA hf hke ?k6 ?k7 hroom ?k9 ?kB ?_ ?c2 ?c3 ?c4 ?c5
  case k6 => k_is
  case k7 => k_is
  case k9 => exact BindsTo.of_eq rfl
  case kB => exact locs rfl
  case c2 => exact rfl
  case c3 => exact rfl
  case c4 => exact rfl
  case c5 => decide
  intro g' L' h' FG' F' N' B' X' T'
  dsimp only
  iterate 7 (first | walk1 | (dsimp only; walk1))
  dsimp only
  refine leaveK_ F' N' fun F2 N2 => ?_
  exact h _ _ _ (by simp) F2 N2
end
end Mine
end
section
namespace Mine
theorem top_off_W1 : True := by
  w_top off
  trivial
end Mine
open PySem PySem.W PyProof.Rows PySem.Calls
set_option maxRecDepth 100000
set_option maxHeartbeats 4000000
namespace Mine
noncomputable section
variable {w : World} {base h₀ : Heap} {L : Addr} {m mg mb : Str → Option Value} {mean : ExcName → Option Value} {env : Env} {news : List (Addr × Obj)} {s : Shared} {Q : Value → Shared → Prop} {E : Value → Shared → Prop} {LS : List Str}

structure IntOut (Good : Int → Prop) (s : Shared) (h : Heap) (y : Value) (s₂ : Shared) : Prop where
  out : ∃ z t tk', y = .int z t ∧ Good z ∧ s₂ = { s with heap := h, toks := tk' }
theorem IntOut.of {Good : Int → Prop} {s : Shared} {h : Heap} {z : Int} {t : Tok} {tk : Nat} (g : Good z) : IntOut Good s h (.int z t) { s with heap := h, toks := tk } := ⟨z, t, tk, rfl, g, rfl⟩

theorem comp_ints {prog : Program} {A : Around} {elt : Expr} {x : Str} {scope : Scope} {cl : List (Str × Addr)} {S : List (Addr × Obj) → Prop} {P : Nat → Value → Prop} {Fin : List Value → List (Addr × Obj) → Prop} {n : Nat} (Good : Int → Prop) (hS : S news)
    (el : ∀ i v I oI C oC D m₂ h tk (E' : Value → Shared → Prop) ys, i < n → P i v → LCg.NsObj oC m₂ → m₂ x = some v → Fr h₀ L h m → News h₀ L h ((I, oI) :: (C, oC) :: (D, LCg.lst ys) :: news) →
      wpAny (model prog w) A (eval elt (compEnvC scope cl C env)) (IntOut Good s h) E' { s with heap := h, toks := tk })
    (fin : ∀ ys row, IntsAre ys row → row.length = n → (∀ z ∈ row, Good z) → Fin ys news) :
    ∀ k i ys row, i + k = n → IntsAre ys row → row.length = i → (∀ z ∈ row, Good z) → LCg.CompRest prog w A h₀ L m env elt x scope cl s S P Fin k i ys news
  | 0, i, ys, row, hi, hI, hl, hg => fin ys row hI (by omega) hg
  | k + 1, i, ys, row, hi, hI, hl, hg => by
    refine LCg.CompRest.succ ?_
    intro v I oI C oC D m₂ h tk E' hP hC hx F N off ne
    refine wpAny_mono (el i v I oI C oC D m₂ h tk E' ys (by omega) hP hC hx F N) (fun y s₂ out => ?_) fun _ _ e => e
    obtain ⟨z, t, tk', rfl, gz, rfl⟩ := out.out
    refine ⟨h, tk', news, rfl, F, N, off, hS, ?_⟩
    refine comp_ints Good hS el fin k (i + 1) _ (row ++ [z]) (by omega) (IntsAre.append hI (.cons z t .nil)) (by simp [hl]) (fun q hq => ?_)
    rcases List.mem_append.mp hq with hq | hq
    · exact hg q hq
    · rw [List.mem_singleton.mp hq]; exact gz

theorem off1_mem {D : Addr} : ∀ {l : List (Addr × Obj)}, LCg.Off1 D l → ∀ p ∈ l, p.1 ≠ D
  | [], _, _, h => nomatch h
  | _ :: _, x, p, h => by
    rcases List.mem_cons.mp h with rfl | h
    · exact x.1
    · exact off1_mem x.2 p h

theorem rule_call {k x : Int} {t1 t2 : Tok} (B : Below callerA base [] h₀) (F : Fr h₀ L s.heap m) (X : (Mine.hd.heap_39 w.params).In h₀) (N : News h₀ L s.heap news) (T : Top Mine.hd.view_39 LS mean mg mb h₀)
    (hf : env.frame = some L) (hke : env.scope.kind = .function) (h0 : 0 ≤ k) (h3 : k ≤ 3)
    (h : ∀ l h' tk ys row, IntsAre ys row → RowOk (256 + k) row → (∀ p ∈ news, p.1 ≠ l) → Fr h₀ L h' m → News h₀ L h' ((l, LCg.lst ys) :: news) → Q (.ref l) { s with heap := h', toks := tk }) :
    wpAny (model PySem.Challenge.rw_pe0139_01.row.prog w) (callerA.deeper env) (call (.ref 134) [.int k t1, .int x t2]) Q E s := by
  have hfill : (Mine.hd.heap_39 w.params).In h₀ → PySem.Challenge.rw_pe0139_01.row.prog = PySem.Challenge.rw_pe0139_01.row.prog := by k_fill; intro _; rfl
  clear hfill
  refine wpAny_call ?_
  refine' code_defC B F X N T ?kA hf hke ?k6 ?k7 ?k8 ?k9 ?kB ?kD ?_ ?c2 ?c3 ?c4
  case kA => exact rfl
  case k6 => k_is
  case k7 => k_is
  case k8 => k_room
  case k9 => exact BindsTo.of_eq rfl
  case kB => exact rfl
  case kD => decide +kernel
  case c2 => exact rfl
  case c3 => exact rfl
  case c4 => exact rfl
  intro g' L' h' tk' cells' FG' F' N' Y' B' X' T' l1
  k_cells Y'
  simp only [List.cons_append, List.nil_append] at N'
  dsimp only
  rename_i oX oK dX dK
  replace dX : oX.data = Data.cell (some (.int x t2)) := dX
  replace dK : oK.data = Data.cell (some (.int k t1)) := dK
  refine wpAny_execs_cons (LCg.Assign_ListComp_U (F₀ := F') rfl (by with_unfolding_all rfl) (by rfl) (by decide) (by rfl) (by decide) (by rfl) (by rfl) (by rfl) ?_)
  iterate 13 (first | walk1 | (dsimp only; walk1))
  rename_i h1 tk1 tt1 tt2 tt3 hR F1 N1 K1
  have hx3 : 0 ≤ x.fmod 3 ∧ x.fmod 3 ≤ 2 := ⟨Int.fmod_nonneg_of_pos _ (by decide), by have := Int.fmod_lt_of_pos x (b := 3) (by decide); omega⟩
  have hn : Builtin.Range.rangeSize 0 (1 + x.fmod 3) 1 = (((1 + x.fmod 3).toNat : Nat) : Int) := by
    simp only [Builtin.Range.rangeSize]
    rw [if_pos (by decide), if_pos (by omega), Int.ediv_one]
    omega
  refine LCg.CompSrc.range rfl F1 N1 hR ?_ hn ?_ fun gg => ?_
  · have : x.fmod 3 = 0 ∨ x.fmod 3 = 1 ∨ x.fmod 3 = 2 := by omega
    rcases this with e | e | e <;> rw [e] <;> decide
  · rw [sizeLine_eq]; omega
  have f8 : ∀ z : Int, 0 ≤ z.fmod 8 ∧ z.fmod 8 ≤ 7 := fun z => ⟨Int.fmod_nonneg_of_pos _ (by decide), by have := Int.fmod_lt_of_pos z (b := 8) (by decide); omega⟩
  refine comp_ints (n := (1 + x.fmod 3).toNat) (fun z => 0 ≤ z ∧ z ≤ 7) trivial ?_ ?_ _ 0 [] [] (by omega) .nil rfl (by simp)
  · intro i v I oI C oC D m₂ h tk E' ys hi hP hC hx F N
    obtain ⟨t, rfl⟩ := hP
    have hi3 : i = 0 ∨ i = 1 ∨ i = 2 := by omega
    rcases hi3 with rfl | rfl | rfl
    · replace hx : m₂ (Str.ofString "j") = some (.int 0 t) := hx
      repeat (first | walk1 | (dsimp only; walk1))
      exact IntOut.of (f8 _)
    · replace hx : m₂ (Str.ofString "j") = some (.int 1 t) := hx
      repeat (first | walk1 | (dsimp only; walk1))
      exact IntOut.of (f8 _)
    · replace hx : m₂ (Str.ofString "j") = some (.int 2 t) := hx
      repeat (first | walk1 | (dsimp only; walk1))
      exact IntOut.of (f8 _)
  · intro ys row hI hl hg D h2 tk2 F2 N2 off
    dsimp only
    iterate 2 (first | walk1 | (dsimp only; walk1))
    refine LCg.ListComp_U (F₀ := F2) (by rfl) (by decide) (by rfl) (by decide) (by rfl) ?_
    iterate 1 (first | walk1 | (dsimp only; walk1))
    refine LCg.CompSrc.ledger rfl F2 N2 (List.mem_cons_self ..) ?_ fun g3 => ?_
    · rw [List.size_toArray, hI.length, sizeLine_eq]; omega
    refine comp_ints (n := ys.toArray.size) (fun z => (7 ≤ z ∧ z ≤ 14) ∨ (256 + k < z ∧ z ≤ 259)) (.inr ⟨_, List.mem_cons_self .., rfl, _, rfl⟩) ?_ ?_ _ 0 [] [] (by omega) .nil rfl (by simp)
    · intro i v I oI C oC D m₂ h tk E' ys3 hi hP hC hx F N
      have hv : ∃ z t, v = .int z t ∧ 0 ≤ z ∧ z ≤ 7 := by
        have hi' : i < row.length := by rw [← hI.length]; simpa using hi
        obtain ⟨t, ht⟩ := hI.get i row[i] (List.getElem?_eq_getElem hi')
        have e : some (Value.int row[i] t) = some v := by
          rw [← ht]; simpa using hP
        exact ⟨_, t, (Option.some.inj e).symm, hg _ (List.getElem_mem hi')⟩
      obtain ⟨z, t, rfl, hz0, hz7⟩ := hv
      repeat' (first | walk1 | (dsimp only; walk1))
      all_goals (refine IntOut.of ?_; omega)
    · intro ys2 row2 hI2 hl2 hg2 D2 h3 tk3 F3 N3 off3
      refine leaveK_ F3 N3 fun F4 N4 => ?_
      refine h D2 h3 tk3 ys2 row2 hI2 ⟨?_, ?_, hg2⟩ (fun p hp => off1_mem off3 p ?_) F4 fun p hp => N4 p ?_
      · rw [hl2, List.size_toArray, hI.length]; omega
      · rw [hl2, List.size_toArray, hI.length]; omega
      · exact List.mem_cons_of_mem _ (List.mem_cons_of_mem _ (List.mem_cons_of_mem _ hp))
      · rcases List.mem_cons.mp hp with rfl | hp
        · exact List.mem_cons_self ..
        · exact List.mem_cons_of_mem _ (List.mem_cons_of_mem _ (List.mem_cons_of_mem _ (List.mem_cons_of_mem _ hp)))
end
end Mine
end
section
namespace Mine
theorem top_off_W3a : True := by
  w_top off
  trivial
end Mine
open PySem PySem.W PyProof.Rows PySem.Calls
set_option maxRecDepth 100000
set_option maxHeartbeats 4000000
namespace Mine
noncomputable section
def signs0 : List (String × Nat × Int × Nat) := [("!", 296, 54, 292), ("!=", 298, 28, 240), ("%", 300, 24, 232), ("%=", 302, 40, 264), ("&", 304, 19, 222), ("&=", 306, 41, 266), ("(", 308, 7, 198), (")", 310, 8, 200), ("*", 312, 16, 216), ("**", 314, 35, 254), ("**=", 316, 46, 276), ("*=", 318, 38, 260), ("+", 320, 14, 212), ("+=", 322, 36, 256), (",", 324, 12, 208), ("-", 326, 15, 214), ("-=", 328, 37, 258), ("->", 330, 51, 286), (".", 332, 23, 230), ("...", 334, 52, 288), ("/", 336, 17, 218), ("//", 338, 47, 278), ("//=", 340, 48, 280), ("/=", 342, 39, 262), (":", 344, 11, 206), (":=", 346, 53, 290), (";", 348, 13, 210), ("<", 350, 20, 224), ("<<", 352, 33, 250), ("<<=", 354, 44, 272), ("<=", 356, 29, 242), ("=", 358, 22, 228), ("==", 360, 27, 238), (">", 362, 21, 226), (">=", 364, 30, 244), (">>", 365, 34, 252), (">>=", 366, 45, 274), ("@", 367, 49, 282), ("@=", 368, 50, 284), ("[", 369, 9, 202), ("]", 370, 10, 204), ("^", 371, 32, 248), ("^=", 372, 43, 270), ("{", 373, 25, 234), ("|", 374, 18, 220), ("|=", 375, 42, 268), ("}", 376, 26, 236), ("~", 377, 31, 246)]
def signs : List (Str × Nat × Int × Nat) := signs0.map fun p => (Str.ofString p.1, p.2)
def ent (P : Params) (p : Str × Nat × Int × Nat) : DictEntry := ⟨PyData.keyHash P p.1, .str p.1 p.2.1, .int p.2.2.1 p.2.2.2⟩
def pairOf (p : Str × Nat × Int × Nat) : Str × Value := (p.1, .int p.2.2.1 p.2.2.2)
variable {w : World} {base h₀ : Heap} {L : Addr} {m mg mb : Str → Option Value} {mean : ExcName → Option Value} {env : Env} {news : List (Addr × Obj)} {s : Shared} {Q : Value → Shared → Prop} {E : Value → Shared → Prop} {LS : List Str}

theorem lookup_as {K : Frag} {a : Addr} {o o' : Obj} (l : K.lookup a = some o) (e : o = o') : K.lookup a = some o' := e ▸ l
theorem signs_at {h₀ : Heap} (_X : (Mine.hd.heap_39 w.params).In h₀) : (Mine.hd.heap_39 w.params).lookup 22 = some ⟨.type "dict", none, .dict (signs.map (ent w.params)).toArray 48, #[]⟩ := by
  have hfill : (Mine.hd.heap_39 w.params).In h₀ → PySem.Challenge.rw_pe0139_01.row.prog = PySem.Challenge.rw_pe0139_01.row.prog := by k_fill; intro _; rfl
  clear hfill
  refine' lookup_as ?l ?e
  case l => k_is
  case e => rfl
theorem signs_lit (P : Params) : ∀ l : List (Str × Nat × Int × Nat), KeysLit P (l.map (ent P))
  | [] => trivial
  | _ :: r => ⟨⟨_, _, rfl, rfl⟩, signs_lit P r⟩
theorem signs_pairs {prog : Program} (P : Params) : ∀ l : List (Str × Nat × Int × Nat), Pairs (strKind prog w) (l.map (ent P)) (l.map pairOf)
  | [] => .nil
  | p :: r => .cons (strKind_is prog w p.1 p.2.1) rfl (signs_pairs P r)
theorem signs_nodup : ((signs.map pairOf).map (·.1)).Nodup := by
  decide +kernel
theorem signs_dict {prog : Program} {h : Heap} (X : (Mine.hd.heap_39 w.params).In h) : h.DictAt (strKind prog w) 22 (signs.map pairOf) 48 :=
  ⟨_, _, X _ _ (signs_at X), ⟨rfl, rfl, rfl⟩, rfl, fun e he => by
    obtain ⟨x, t, e1, e2⟩ := (signs_lit w.params signs).all e (by simpa using he)
    exact ⟨x, by rw [e1]; exact strKind_is prog w x t, e2⟩, by simpa using signs_pairs w.params signs, signs_nodup⟩
theorem find_ent (P : Params) (p : Str × Nat × Int × Nat) : ∀ l : List (Str × Nat × Int × Nat), (l.map (·.1)).Nodup → p ∈ l → findBy Value.isStrOf (l.map (ent P)).toArray p.1 = some (.int p.2.2.1 p.2.2.2)
  | [], _, h => by cases h
  | q :: r, hn, h => by
    unfold findBy
    rw [List.find?_toArray, List.map_cons, List.find?_cons]
    rcases List.mem_cons.mp h with rfl | h
    · rw [show Value.isStrOf p.1 (ent P p).key = true from by show (p.1 == p.1) = true; exact beq_self_eq_true _]; rfl
    · have hn' := List.nodup_cons.mp hn
      have ne : Value.isStrOf p.1 (ent P q).key = false := by
        cases e : Value.isStrOf p.1 (ent P q).key with
        | false => rfl
        | true =>
          obtain ⟨t, ht⟩ := Value.isStrOf_shape e
          have e2 : q.1 = p.1 := by injection ht
          exact absurd (List.mem_map.mpr ⟨p, h, e2.symm⟩) hn'.1
      rw [ne]
      have := find_ent P p r hn'.2 h
      unfold findBy at this
      rw [List.find?_toArray] at this
      exact this
theorem signs_mem {i : Nat} {k : Str} {x : Value} (h : (signs.map pairOf)[i]? = some (k, x)) : ∃ p, signs[i]? = some p ∧ p.1 = k ∧ x = .int p.2.2.1 p.2.2.2 := by
  rw [List.getElem?_map] at h
  cases e : signs[i]? with
  | none => rw [e] at h; cases h
  | some p => rw [e] at h; cases h; exact ⟨p, rfl, rfl, rfl⟩
theorem signs_pick {z : Int} (h7 : 7 ≤ z) (h14 : z ≤ 14) : ∃ c : Str, ((signs.filter fun p => decide (p.2.2.1 = z)).map (·.1)) = [c] ∧ c.cps.toList = sg z := by
  have : z = 7 ∨ z = 8 ∨ z = 9 ∨ z = 10 ∨ z = 11 ∨ z = 12 ∨ z = 13 ∨ z = 14 := by omega
  rcases this with rfl | rfl | rfl | rfl | rfl | rfl | rfl | rfl
  · exact ⟨Str.ofString "(", by decide +kernel, by decide +kernel⟩
  · exact ⟨Str.ofString ")", by decide +kernel, by decide +kernel⟩
  · exact ⟨Str.ofString "[", by decide +kernel, by decide +kernel⟩
  · exact ⟨Str.ofString "]", by decide +kernel, by decide +kernel⟩
  · exact ⟨Str.ofString ":", by decide +kernel, by decide +kernel⟩
  · exact ⟨Str.ofString ",", by decide +kernel, by decide +kernel⟩
  · exact ⟨Str.ofString ";", by decide +kernel, by decide +kernel⟩
  · exact ⟨Str.ofString "+", by decide +kernel, by decide +kernel⟩

def KeySrc (prog : Program) (w : World) (i : Nat) (v : Value) : Prop := ∃ k x, (signs.map pairOf)[i]? = some (k, x) ∧ (strKind prog w).is k v = true
open LCg LCt in
theorem comp_signs {prog : Program} {A : Around} {ct elt iter : Expr} {x : Str} {px : Pos} {scope : Scope} {cl : List (Str × Addr)} {pos : Pos} (_F₀ : Fr h₀ L s.heap m) (X : (Mine.hd.heap_39 w.params).In h₀)
    (hclos : closureFor scope env = pure cl) (hcell : ∀ y ∈ scope.names, y.2 ≠ .cell) (hkind : scope.kind = .function)
    (hnames : ∀ y ∈ scope.names, y.2 = .local → scope.names.lookup y.1 = some .local) (hx : scope.names.lookup x = some .local)
    (h : wpAny (model prog w) A (eval iter env) (fun xv s₁ => xv = .ref 22 ∧ A.handled = none ∧ ∃ news, Fr h₀ L s₁.heap m ∧ News h₀ L s₁.heap news ∧
      ∀ g, CompRestT prog w A h₀ L m env ct elt x scope cl { s₁ with heap := g } (fun _ => True) (KeySrc prog w) (FinE h₀ L m { s₁ with heap := g } Q) signs.length 0 [] news) E s)
    (hs : ∀ x, foldedSetIterable iter env x = pure x := by intro _; rfl) :
    wpAny (model prog w) A (eval (.ListComp elt [⟨.Name x px, iter, [ct], 0⟩] scope pos) env) Q E s := by
  rw [eval_ListComp]
  refine wpAny_comprehension_free (use := none) rfl hs hclos hkind hnames (wpAny_mono h (fun xv s₁ h₁ => ?_) fun _ _ e => e)
  obtain ⟨rfl, hh, news, F, N, R⟩ := h₁
  have hd := signs_dict (prog := prog) (X.keeps F.keep)
  have hlt : @LT.lt Nat _ 22 s₁.heap.objs.size := by obtain ⟨_, _, e, _⟩ := hd; exact Heap.lt_size e
  refine wpAny_pyIter_dict (by decide) hd ?_
  have up : ∀ b o, s₁.heap.get? b = some o → (s₁.heap.push { cls := .type "dict_keyiterator", data := .fields #[.ref 22, .int 0 0, .int (signs.map pairOf).length 0, .int 48 0] }).get? b = some o := fun b o e => Heap.get?_push_of_some _ e
  have hl : (signs.map pairOf).length = signs.length := List.length_map ..
  refine block_T (n := (signs.map pairOf).length) (Walks.dictKeys hh s₁.heap.objs.size 22 (Nat.ne_of_lt hlt) (signs.map pairOf) 48) (by rw [hl, sizeLine_eq]; decide) (fun i h st => by obtain ⟨o, e, _⟩ := st.1; exact ⟨o, e⟩)
    (fun i h h' o nw st e e' k N _ => ⟨st.1.at fun o' q => by rw [e] at q; cases q; exact e', signs_dict (X.keeps k)⟩) hcell hkind hx ⟨⟨_, Heap.get?_push_size _ rfl, rfl, rfl⟩, signs_dict ((X.keeps F.keep).keeps up)⟩ (fun b hb => ?_)
    (F.keeps up) (N.grown up) (Nat.ne_of_lt F.ns.lt) (next_is_new F) (fun p hp => Nat.ne_of_lt (Heap.lt_size (N p hp).1)) trivial (S := fun _ => True) (by rw [hl]; exact R _) ?_
  · show b < (s₁.heap.push _).objs.size
    rw [Heap.size_push]
    rcases List.mem_cons.mp hb with rfl | hb
    · exact Nat.lt_succ_self _
    · rw [List.mem_singleton.mp hb]; exact Nat.lt_succ_of_lt hlt
  · intro D C h tk m' ys news' F' N' o1 hn hC₀ hD₀ hCL hDL hCD offC fin
    refine ⟨m', hn, fun h'' hs'' => fin D h'' tk (F'.change hs'' hCL hC₀) (fun p hp => ?_) o1⟩
    refine ⟨hs''.extBut _ _ ?_ (N' p hp).1, (N' p hp).2⟩
    rcases List.mem_cons.mp hp with rfl | hp
    · exact Ne.symm hCD
    · exact offC p hp

inductive StrsAre : List Value → List Str → Prop
  | nil : StrsAre [] []
  | snoc {ys : List Value} {ks : List Str} (k : Str) (t : Tok) : StrsAre ys ks → StrsAre (ys ++ [.str k t]) (ks ++ [k])
structure TestOut (b : Bool) (s : Shared) (h : Heap) (ok : Bool) (s₂ : Shared) : Prop where
  out : ok = b ∧ ∃ tk', s₂ = { s with heap := h, toks := tk' }
structure StrOut (k : Str) (s : Shared) (h : Heap) (y : Value) (s₂ : Shared) : Prop where
  out : ∃ t tk', y = .str k t ∧ s₂ = { s with heap := h, toks := tk' }
theorem signs_turns {prog : Program} {A : Around} {ct elt : Expr} {x : Str} {scope : Scope} {cl : List (Str × Addr)} {Fin : List Value → List (Addr × Obj) → Prop} (z : Int)
    (te : ∀ p t I oI C oC D m₂ h tk (E' : Value → Shared → Prop) ys, p ∈ signs → LCg.NsObj oC m₂ → m₂ x = some (.str p.1 t) → Fr h₀ L h m → News h₀ L h ((I, oI) :: (C, oC) :: (D, LCg.lst ys) :: news) →
      wpAny (model prog w) A (isTrue ct (compEnvC scope cl C env) (eval ct (compEnvC scope cl C env))) (TestOut (decide (p.2.2.1 = z)) s h) E' { s with heap := h, toks := tk })
    (el : ∀ k t I oI C oC D m₂ h tk (E' : Value → Shared → Prop) ys, LCg.NsObj oC m₂ → m₂ x = some (.str k t) → Fr h₀ L h m → News h₀ L h ((I, oI) :: (C, oC) :: (D, LCg.lst ys) :: news) →
      wpAny (model prog w) A (eval elt (compEnvC scope cl C env)) (StrOut k s h) E' { s with heap := h, toks := tk })
    (fin : ∀ ys, StrsAre ys ((signs.filter fun p => decide (p.2.2.1 = z)).map (·.1)) → Fin ys news) :
    ∀ k i ys, i + k = signs.length → StrsAre ys (((signs.take i).filter fun p => decide (p.2.2.1 = z)).map (·.1)) → LCt.CompRestT prog w A h₀ L m env ct elt x scope cl s (fun _ => True) (KeySrc prog w) Fin k i ys news
  | 0, i, ys, hi, hI => fin ys (by rw [List.take_of_length_le (by omega)] at hI; exact hI)
  | k + 1, i, ys, hi, hI => by
    refine LCt.CompRestT.succ ?_
    intro v I oI C oC D m₂ h tk E' hP hC hx F N off ne
    obtain ⟨ky, vx, hk, hv⟩ := hP
    obtain ⟨p, hp, rfl, rfl⟩ := signs_mem hk
    obtain ⟨t, rfl⟩ := Value.isStrOf_shape hv
    have htake : signs.take (i + 1) = signs.take i ++ [p] := by rw [List.take_add_one, hp]; rfl
    refine wpAny_mono (te p t I oI C oC D m₂ h tk E' ys (List.mem_of_getElem? hp) hC hx F N) (fun ok s₂ out => ?_) fun _ _ e => e
    obtain ⟨rfl, tk', rfl⟩ := out.out
    cases hd : decide (p.2.2.1 = z) with
    | true =>
      rw [if_pos rfl]
      refine wpAny_mono (el p.1 t I oI C oC D m₂ h tk' E' ys hC hx F N) (fun y s₂ out => ?_) fun _ _ e => e
      obtain ⟨t', tk2, rfl, rfl⟩ := out.out
      refine ⟨h, tk2, news, rfl, F, N, off, trivial, ?_⟩
      refine signs_turns z te el fin k (i + 1) _ (by omega) ?_
      rw [htake, List.filter_append, List.map_append, show [p].filter (fun p => decide (p.2.2.1 = z)) = [p] by rw [List.filter_cons, hd]; rfl]
      exact .snoc _ _ hI
    | false =>
      rw [if_neg (by decide)]
      refine ⟨h, tk', news, rfl, F, N, off, trivial, ?_⟩
      refine signs_turns z te el fin k (i + 1) _ (by omega) ?_
      rw [htake, List.filter_append, List.map_append, show [p].filter (fun p => decide (p.2.2.1 = z)) = [] by rw [List.filter_cons, hd]; rfl, List.map_nil, List.append_nil]
      exact hI
theorem StrsAre.one {ys : List Value} {c : Str} (h : StrsAre ys [c]) : ∃ t, ys = [.str c t] := by
  generalize e : [c] = ks at h
  cases h with
  | nil => cases e
  | snoc k t h =>
    rename_i ys' ks'
    cases ks' with
    | nil =>
      cases e
      generalize e2 : ([] : List Str) = q at h
      cases h with
      | nil => exact ⟨t, rfl⟩
      | snoc k t h => simp at e2
    | cons a b => simp at e
theorem sign_item {prog : Program} {A : Around} {value slice : Expr} {p : Str × Nat × Int × Nat} {t : Tok} (F : Fr h₀ L s.heap m) (X : (Mine.hd.heap_39 w.params).In h₀) (hp : p ∈ signs) (h : Q (.int p.2.2.1 p.2.2.2) { s with toks := s.toks + 1 })
    (hs : subscripted slice false (.ref 22) (.str p.1 t) = operate [.ref 22, .str p.1 t] (getItem (.ref 22) (.str p.1 t)) := by with_unfolding_all rfl) :
    wpAny (model prog w) A (subscriptTail value slice (.ref 22) (.str p.1 t)) Q E s :=
  have hm := mapOf_K (prog := prog) (X.keeps F.keep) (signs_at X) (by simpa using signs_lit w.params signs)
  tail_any hm.typeIs slot_dict_getitem.lookup (wpAny_getItem_of (strKind_is prog w p.1 t) hm (find_ent w.params p signs (by have z := signs_nodup; rw [List.map_map] at z; exact z) hp) h) hs
end
end Mine
end
section
namespace Mine
theorem top_off_W3 : True := by
  w_top off
  trivial
end Mine
open PySem PySem.W PyProof.Rows PySem.Calls
set_option maxRecDepth 100000
set_option maxHeartbeats 4000000
namespace Mine
noncomputable section
variable {w : World} {A A₀ : Around} {outer : List Env} {base h₀ : Heap} {L : Addr} {m mg mb : Str → Option Value} {mean : ExcName → Option Value} {env : Env} {news : List (Addr × Obj)} {s : Shared} {Q : Value → Shared → Prop} {E : Value → Shared → Prop} {LS : List Str}

theorem news_two {h : Heap} {a b : Addr × Obj} {rest nw : List (Addr × Obj)} (N : News h₀ L h (a :: b :: rest)) (hs : ∀ p ∈ nw, p ∈ rest) : News h₀ L h (a :: b :: nw) := fun p hp => N p (by
  rcases List.mem_cons.mp hp with rfl | hp
  · exact List.mem_cons_self ..
  · rcases List.mem_cons.mp hp with rfl | hp
    · exact List.mem_cons_of_mem _ (List.mem_cons_self ..)
    · exact List.mem_cons_of_mem _ (List.mem_cons_of_mem _ (hs p hp)))

inductive StkIs (nw : List (Addr × Obj)) : List Value → List Int → Prop
  | nil : StkIs nw [] []
  | cons {its : List Value} {τ : List Int} {q : Addr} {t1 t2 : Tok} {s : Int} : StkIs nw its τ → (q, tupObj [.str (Str.ofString "") t1, .str (Str.ofString (toString s)) t2]) ∈ nw → StkIs nw (its ++ [.ref q]) (s :: τ)
theorem StkIs.mono {nw nw' : List (Addr × Obj)} (hs : ∀ p ∈ nw, p ∈ nw') {its : List Value} {τ : List Int} (h : StkIs nw its τ) : StkIs nw' its τ := by
  induction h with
  | nil => exact .nil
  | cons _ hm ih => exact .cons ih (hs _ hm)
theorem StkIs.length {nw : List (Addr × Obj)} {its : List Value} {τ : List Int} (h : StkIs nw its τ) : its.length = τ.length := by
  induction h with
  | nil => rfl
  | cons _ _ ih => simp [ih]

def told5 (a b c d e : Option Value) (m : Str → Option Value) (y : Str) : Option Value := if y = Str.ofString "stack" then a else if y = Str.ofString "told" then b else if y = Str.ofString "most" then c else if y = Str.ofString "turns" then d else if y = Str.ofString "rules" then e else m y
theorem told5_eq {a b c d e : Option Value} {m : Str → Option Value} (h1 : m (Str.ofString "stack") = a) (h2 : m (Str.ofString "told") = b) (h3 : m (Str.ofString "most") = c) (h4 : m (Str.ofString "turns") = d) (h5 : m (Str.ofString "rules") = e) : told5 a b c d e m = m := by
  funext y
  unfold told5
  split
  · rename_i q; rw [q, h1]
  · split
    · rename_i q; rw [q, h2]
    · split
      · rename_i q; rw [q, h3]
      · split
        · rename_i q; rw [q, h4]
        · split
          · rename_i q; rw [q, h5]
          · rfl

structure ToldJ (TT : Int → List Nat) (W NN : Int → Int) (st tl cl dx r : Addr) (fixed : List (Addr × Obj)) (n : Nat) (m₁ : Str → Option Value) (nw : List (Addr × Obj)) : Prop where
  ex : ∃ (σ : List Int) (its : List Value) (ep : Nat) (tv : List (Str × Tok)) (tep : Nat) (most turns : Int) (tm tt : Tok) (oC : Obj) (rest : List (Addr × Obj)),
    nw = (st, accObj dx its ep) :: (tl, PySem.W.listOf (strValues tv).toArray tep) :: (cl, oC) :: rest ∧ (∀ p ∈ fixed, p ∈ rest) ∧ (∀ p ∈ rest, p.1 ≠ st ∧ p.1 ≠ tl ∧ p.1 ≠ cl) ∧ StkIs rest its (σ ++ [0]) ∧ (∃ v, oC.data = .cell v) ∧
    m₁ (Str.ofString "stack") = some (.ref st) ∧ m₁ (Str.ofString "told") = some (.ref tl) ∧ m₁ (Str.ofString "most") = some (.int most tm) ∧ m₁ (Str.ofString "turns") = some (.int turns tt) ∧ m₁ (Str.ofString "rules") = some (.ref r) ∧
    Mch TT W NN σ (tv.flatMap (·.1.cps.toList)) most turns ∧ (tv.length : Int) ≤ turns ∧ (∀ x ∈ tv.map (·.1), x.length ≤ 1) ∧ n = (200 - turns).toNat

theorem told_call {r l0 l1 l2 l3 : Addr} {y0 y1 y2 y3 : List Value} {R : Int → List Int} {TT : Int → List Nat} {W NN : Int → Int} (B : Below callerA base [] h₀) (F : Fr h₀ L s.heap m) (X : (Mine.hd.heap_39 w.params).In h₀) (N : News h₀ L s.heap news) (T : Top Mine.hd.view_39 LS mean mg mb h₀)
    (hf : env.frame = some L) (hke : env.scope.kind = .function) (G : Gram R TT W NN)
    (hr : (r, LCg.lst [.ref l0, .ref l1, .ref l2, .ref l3]) ∈ news) (h0 : (l0, LCg.lst y0) ∈ news) (h1 : (l1, LCg.lst y1) ∈ news) (h2 : (l2, LCg.lst y2) ∈ news) (h3 : (l3, LCg.lst y3) ∈ news)
    (i0 : IntsAre y0 (R 256)) (i1 : IntsAre y1 (R 257)) (i2 : IntsAre y2 (R 258)) (i3 : IntsAre y3 (R 259))
    (h : ∀ l q h' tk tx t1 t2 t3 t4 u1 u2 ep, tx.cps.toList = TT 256 → Fr h₀ L h' m → News h₀ L h' ((l, { cls := .type "list", data := .seq #[.str tx t1, .int (1 + W 256) t2, .int (NN 256 + 1) t3, .int 0 t4, .ref q] ep }) :: (q, tupObj [.str (Str.ofString "") u1, .str (Str.ofString "") u2]) :: news) → Q (.ref l) { s with heap := h', toks := tk }) :
    wpAny (model PySem.Challenge.rw_pe0139_01.row.prog w) (callerA.deeper env) (call (.ref 139) [.ref r]) Q E s := by
  have hfill : (Mine.hd.heap_39 w.params).In h₀ → PySem.Challenge.rw_pe0139_01.row.prog = PySem.Challenge.rw_pe0139_01.row.prog := by k_fill; intro _; rfl
  clear hfill
  refine wpAny_call ?_
  refine' code_defC B F X N T ?kA hf hke ?k6 ?k7 ?k8 ?k9 ?kB ?kD ?_ ?c2 ?c3 ?c4
  case kA => exact rfl
  case k6 => k_is
  case k7 => k_is
  case k8 => k_room
  case k9 => exact BindsTo.of_eq rfl
  case kB => exact rfl
  case kD => decide +kernel
  case c2 => exact rfl
  case c3 => exact rfl
  case c4 => exact rfl
  intro g' L' h' tk' cells' FG' F' N' Y' B' X' T' lt0
  k_cells Y'
  simp only [List.cons_append, List.nil_append] at N'
  dsimp only
  iterate 6 (first | walk1 | (dsimp only; walk1))
  iterate 1 (first | walk1 | (dsimp only; walk1))
  refine make_call B' F' X' N' T' rfl rfl rfl (by k_room) ?_
  intro st dx hh1 tk1 e1 t1 ek1 F1 N1 lt1 lt2
  iterate 29 (first | walk1 | (dsimp only; walk1))
  rename_i oS dS tl hA1 ltA dtp hA2 ltB hA3 hA4 hA5 hA6 hA7 FF NF
  replace dS : oS.data = Data.cell none := dS
  obtain ⟨ltA1, ltA2, ltA3, ltA4⟩ := ltA
  have hes1 : ∀ nm : Str, (Value.str (Str.ofString "_initial_size") t1).isStr nm = false → getL nm [e1] = some none := fun nm hn => by
    unfold getL
    rw [List.find?_cons, ek1, hn]
    simp [DictEntry.refKey, ek1]
  have N1 : News g' L' hA7 ((st, accObj dx [] 0) :: (tl, PySem.W.listOf ([] : List Value).toArray 0) :: (L' + 1, oS) :: (dx, dictOf [e1] 1) :: news) := fun p hp => NF p (by
    simp only [List.mem_cons] at hp ⊢
    rcases hp with rfl | rfl | rfl | rfl | hp
    · exact .inr (.inr (.inl rfl))
    · exact .inr (.inl rfl)
    · exact .inr (.inr (.inr (.inr (.inl rfl))))
    · exact .inr (.inr (.inr (.inl rfl)))
    · exact .inr (.inr (.inr (.inr (.inr hp)))))
  have lcl : @LT.lt Nat _ (L' + 1) dx := lt1 _ (List.mem_cons_self ..)
  have lnw : ∀ p ∈ news, @LT.lt Nat _ p.1 L' := lt0
  have lds : @LT.lt Nat _ dx st := lt2
  have lst : @LT.lt Nat _ st tl := ltA1
  have off0 : ∀ p ∈ (tl, PySem.W.listOf ([] : List Value).toArray 0) :: (L' + 1, oS) :: (dx, dictOf [e1] 1) :: news, p.1 ≠ st := fun p hp => by
    simp only [List.mem_cons] at hp
    rcases hp with rfl | rfl | rfl | hp
    · exact Nat.ne_of_gt lst
    · exact Nat.ne_of_lt (Nat.lt_trans lcl lds)
    · exact Nat.ne_of_lt lds
    · have := lnw p hp; exact Nat.ne_of_lt (by omega)
  have hmd : (dx, dictOf [e1] 1) ∈ (tl, PySem.W.listOf ([] : List Value).toArray 0) :: (L' + 1, oS) :: (dx, dictOf [e1] 1) :: news := by simp
  refine method_bi (K := Mine.hd.heap_39 w.params) (X'.keeps FF.keep) (accInst N1 (List.mem_cons_self ..) (List.mem_cons_of_mem _ hmd)) (by k_is) (by decide +kernel) (by k_is) (by k_is) (by k_is) (by decide +kernel) ?_ ?_
  · show (lookIn "push" (dictOf [e1] 1)).map _ = _
    rw [lookIn_dict, hes1 _ rfl]; rfl
  iterate 7 (first | walk1 | (dsimp only; walk1))
  refine push_call B' FF X' N1 T' rfl rfl rfl (by k_room) hmd off0 (hes1 _ rfl) (by simp) ?_
  intro q1 hB1 tkB1 FB1 NB1 qs1 qr1
  iterate 4 (first | walk1 | (dsimp only; walk1))
  have hmd2 := List.mem_cons_of_mem (q1, tupObj [.str (Str.ofString "") tk, .str (Str.ofString "0") (tk + 1)]) hmd
  refine method_bi (K := Mine.hd.heap_39 w.params) (X'.keeps FB1.keep) (accInst NB1 (List.mem_cons_self ..) (List.mem_cons_of_mem _ hmd2)) (by k_is) (by decide +kernel) (by k_is) (by k_is) (by k_is) (by decide +kernel) ?_ ?_
  · show (lookIn "push" (dictOf [e1] 1)).map _ = _
    rw [lookIn_dict, hes1 _ rfl]; rfl
  iterate 7 (first | walk1 | (dsimp only; walk1))
  refine push_call B' FB1 X' NB1 T' rfl rfl rfl (by k_room) hmd2 (fun p hp => ?_) (hes1 _ rfl) (by simp) ?_
  · rcases List.mem_cons.mp hp with rfl | hp
    · exact qs1
    · exact off0 p hp
  intro q2 hB2 tkB2 FB2 NB2 qs2 qr2
  iterate 1 (first | walk1 | (dsimp only; walk1))
  have NB3 : News g' L' hB2 ((st, accObj dx [.ref q1, .ref q2] 2) :: (tl, PySem.W.listOf (strValues []).toArray 0) :: (L' + 1, oS) :: (q2, tupObj [.str (Str.ofString "") tkB1, .str (Str.ofString "256") (tkB1 + 1)]) :: (q1, tupObj [.str (Str.ofString "") tk, .str (Str.ofString "0") (tk + 1)]) :: (dx, dictOf [e1] 1) :: news) := fun p hp => NB2 p (by
    simp only [List.mem_cons] at hp ⊢
    rcases hp with rfl | rfl | rfl | rfl | rfl | rfl | hp
    · exact .inl rfl
    · exact .inr (.inr (.inr (.inl rfl)))
    · exact .inr (.inr (.inr (.inr (.inl rfl))))
    · exact .inr (.inl rfl)
    · exact .inr (.inr (.inl rfl))
    · exact .inr (.inr (.inr (.inr (.inr (.inl rfl)))))
    · exact .inr (.inr (.inr (.inr (.inr (.inr hp))))))
  refine While_inv2 (fun n m₁ nw => ToldJ TT W NN st tl (L' + 1) dx r ((dx, dictOf [e1] 1) :: news) n m₁ nw) FB2 NB3 (n₀ := 200) ⟨[256], [.ref q1, .ref q2], 2, [], 0, 0, 0, _, _, oS, _, rfl, ?_, ?_, ?_, ⟨_, dS⟩, rfl, rfl, rfl, rfl, rfl, Mch.start G, by simp, by simp, by decide⟩ ?_
  · intro p hp
    exact List.mem_cons_of_mem _ (List.mem_cons_of_mem _ hp)
  · intro p hp
    simp only [List.mem_cons] at hp
    rcases hp with rfl | rfl | rfl | hp
    · exact ⟨qs2, fun e => qr2 (tl, _) (List.mem_cons_of_mem _ (List.mem_cons_self ..)) e.symm, fun e => qr2 (L' + 1, oS) (List.mem_cons_of_mem _ (List.mem_cons_of_mem _ (List.mem_cons_self ..))) e.symm⟩
    · exact ⟨qs1, fun e => qr1 (tl, _) (List.mem_cons_self ..) e.symm, fun e => qr1 (L' + 1, oS) (List.mem_cons_of_mem _ (List.mem_cons_self ..)) e.symm⟩
    · exact ⟨Nat.ne_of_lt lds, Nat.ne_of_lt (Nat.lt_trans lds lst), Nat.ne_of_gt lcl⟩
    · have l9 : @LT.lt Nat _ p.1 L' := lnw p hp
      refine ⟨Nat.ne_of_lt ?_, Nat.ne_of_lt ?_, Nat.ne_of_lt ?_⟩ <;> omega
  · exact StkIs.cons (its := [.ref q1]) (τ := [0]) (s := 256) (.cons (its := []) (τ := []) (s := 0) .nil (List.mem_cons_of_mem _ (List.mem_cons_self ..))) (List.mem_cons_self ..)
  intro n m₁ nw hh tkk F1 N1 J1
  obtain ⟨σ, its, ep, tv, tep, most, turns, tm, tt, oC, rest, rfl, hfx, hoff, hstk, ⟨cv, hoC⟩, ms, mt, mm, mu, mr, M1, htl, hone, hn⟩ := J1.ex
  have hlt := M1.lt G
  have ht0 := M1.t0
  have F2 : Fr g' L' hh (fun y => if y = Str.ofString "stack" then some (.ref st) else if y = Str.ofString "told" then some (.ref tl) else if y = Str.ofString "most" then some (.int most tm) else if y = Str.ofString "turns" then some (.int turns tt) else if y = Str.ofString "rules" then some (.ref r) else m₁ y) := by
    have e : (fun y => if y = Str.ofString "stack" then some (Value.ref st) else if y = Str.ofString "told" then some (.ref tl) else if y = Str.ofString "most" then some (.int most tm) else if y = Str.ofString "turns" then some (.int turns tt) else if y = Str.ofString "rules" then some (.ref r) else m₁ y) = m₁ := by
      funext y
      split
      · rename_i q; rw [q, ms]
      · split
        · rename_i q; rw [q, mt]
        · split
          · rename_i q; rw [q, mm]
          · split
            · rename_i q; rw [q, mu]
            · split
              · rename_i q; rw [q, mr]
              · rfl
    rw [e]; exact F1
  clear F1 J1
  iterate 18 (first | walk1 | (dsimp only; walk1))
  iterate 1 (first | walk1 | (dsimp only; walk1))
  have hmst : (st, accObj dx its ep) ∈ (st, accObj dx its ep) :: (tl, PySem.W.listOf (strValues tv).toArray tep) :: (L' + 1, oC) :: rest := List.mem_cons_self ..
  have hmr : (dx, dictOf [e1] 1) ∈ rest := hfx _ (List.mem_cons_self ..)
  have hmdx : (dx, dictOf [e1] 1) ∈ (tl, PySem.W.listOf (strValues tv).toArray tep) :: (L' + 1, oC) :: rest := List.mem_cons_of_mem _ (List.mem_cons_of_mem _ hmr)
  refine method_bi (K := Mine.hd.heap_39 w.params) (X'.keeps F2.keep) (accInst N1 hmst (List.mem_cons_of_mem _ hmdx)) (by k_is) (by decide +kernel) (by k_is) (by k_is) (by k_is) (by decide +kernel) ?_ ?_
  · show (lookIn "part_count" (dictOf [e1] 1)).map _ = _
    rw [lookIn_dict, hes1 _ rfl]; rfl
  iterate 1 (first | walk1 | (dsimp only; walk1))
  refine part_count_call B' F2 X' N1 T' rfl rfl rfl (by k_room) hmst (List.mem_cons_of_mem _ hmdx) ?_
  intro hC1 tkC1 tC1 FC1 NC1
  clear F2 N1
  iterate 27 (first | walk1 | (dsimp only; walk1))
  rename Fr _ _ _ _ => FD
  rename News _ _ _ _ => ND
  rename_i tkD
  have ND1 : News g' L' _ ((st, accObj dx its ep) :: (tl, PySem.W.listOf (strValues tv).toArray tep) :: (L' + 1, oC) :: rest) := fun p hp => ND p (List.mem_cons_of_mem _ hp)
  clear ND
  have hsn : ∃ s0 τ, σ ++ [0] = s0 :: τ := by cases σ with | nil => exact ⟨_, _, rfl⟩ | cons a b => exact ⟨_, _, rfl⟩
  obtain ⟨s0, τ, hτ⟩ := hsn
  have hs0 : 0 ≤ s0 ∧ s0 ≤ 259 := by
    cases σ with
    | nil => cases hτ; decide
    | cons a b =>
      have e : a = s0 := (List.cons.inj hτ).1
      rcases M1.sym a (List.mem_cons_self ..) with z | z <;> omega
  have hlen := hstk.length
  rw [hτ] at hstk
  cases hstk with
  | cons hstk hq =>
  rename_i pre q tq1 tq2
  have hoff1 : ∀ p ∈ (tl, PySem.W.listOf (strValues tv).toArray tep) :: (L' + 1, oC) :: rest, p.1 ≠ st := fun p hp => by
    simp only [List.mem_cons] at hp
    rcases hp with rfl | rfl | hp
    · exact Nat.ne_of_gt lst
    · exact Nat.ne_of_lt (Nat.lt_trans lcl lds)
    · exact (hoff p hp).1
  refine method_bi (K := Mine.hd.heap_39 w.params) (X'.keeps FD.keep) (accInst ND1 (List.mem_cons_self ..) (List.mem_cons_of_mem _ hmdx)) (by k_is) (by decide +kernel) (by k_is) (by k_is) (by k_is) (by decide +kernel) ?_ ?_
  · show (lookIn "pop" (dictOf [e1] 1)).map _ = _
    rw [lookIn_dict, hes1 _ rfl]; rfl
  iterate 1 (first | walk1 | (dsimp only; walk1))
  refine pop_call B' FD X' ND1 T' rfl rfl rfl (by k_room) hmdx hoff1 (hes1 _ rfl) ?_ ?_
  · simp only [List.length_append, List.length_cons, List.length_nil] at hlen; omega
  intro hE1 tkE1 FE1 NE1
  clear FD ND1
  iterate 1 (first | walk1 | (dsimp only; walk1))
  refine item_tupleT (l := [.str (Str.ofString "") tq1, .str (Str.ofString (toString s0)) tq2]) (News.isTup NE1 (List.mem_cons_of_mem _ (List.mem_cons_of_mem _ (List.mem_cons_of_mem _ hq)))) (by decide) (by decide) (by rfl) (by rfl) ?_
  iterate 1 (first | walk1 | (dsimp only; walk1))
  refine KIN.call_num hs0.1 (by omega) ?_
  refine storeX_C FE1 NE1 (by rfl) (.tail (Nat.ne_of_gt (Nat.lt_trans lcl lds)) (.tail (Nat.ne_of_gt (Nat.lt_trans lcl (Nat.lt_trans lds lst))) (.head fun p hp => (hoff p hp).2.2))) hoC ?_
  intro hF1 oC2 FF1 NF1 dC2
  clear FE1 NE1
  replace NF1 : News g' L' hF1 ((st, accObj dx pre (ep + 1)) :: (tl, PySem.W.listOf (strValues tv).toArray tep) :: (L' + 1, oC2) :: rest) := NF1
  iterate 10 (first | walk1 | (dsimp only; walk1))
  refine iseof_call B' FF1 X' NF1 T' rfl rfl rfl (by k_room) ?_
  intro b1 hG1 tkG1 hb1 FG1 NG1
  clear FF1 NF1
  cases b1 with
  | true =>
    have hz : s0 = 0 := hb1.mp rfl
    have hσ : σ = [] := by
      cases σ with
      | nil => rfl
      | cons a b =>
        exfalso
        have e : a = s0 := (List.cons.inj hτ).1
        rcases M1.sym a (List.mem_cons_self ..) with z | z <;> omega
    subst hσ
    have hτ0 : τ = [] := (List.cons.inj hτ).2.symm
    subst hτ0
    cases hstk
    have fin := M1.fin
    iterate 15 (first | walk1 | (dsimp only; walk1))
    refine SC.join (l := tv) (texts := tv.map (·.1)) (News.isList NG1 (List.mem_cons_of_mem _ (List.mem_cons_self ..))) rfl (joinOk_of (Nat.le_trans (sum_ones hone) (by simp; omega))) ?_
    intro tj kj
    iterate 7 (first | walk1 | (dsimp only; walk1))
    have hmdx2 : (dx, dictOf [e1] 1) ∈ (tl, PySem.W.listOf (strValues tv).toArray tep) :: (L' + 1, oC2) :: rest := List.mem_cons_of_mem _ (List.mem_cons_of_mem _ hmr)
    refine method_bi (K := Mine.hd.heap_39 w.params) (X'.keeps FG1.keep) (accInst NG1 (List.mem_cons_self ..) (List.mem_cons_of_mem _ hmdx2)) (by k_is) (by decide +kernel) (by k_is) (by k_is) (by k_is) (by decide +kernel) ?_ ?_
    · show (lookIn "part_count" (dictOf [e1] 1)).map _ = _
      rw [lookIn_dict, hes1 _ rfl]; rfl
    iterate 1 (first | walk1 | (dsimp only; walk1))
    refine part_count_call B' FG1 X' NG1 T' rfl rfl rfl (by k_room) (List.mem_cons_self ..) (List.mem_cons_of_mem _ hmdx2) ?_
    intro hI1 tkI1 tI1 FI1 NI1
    clear FG1 NG1
    iterate 3 (first | walk1 | (dsimp only; walk1))
    refine method_bi (K := Mine.hd.heap_39 w.params) (X'.keeps FI1.keep) (accInst NI1 (List.mem_cons_self ..) (List.mem_cons_of_mem _ hmdx2)) (by k_is) (by decide +kernel) (by k_is) (by k_is) (by k_is) (by decide +kernel) ?_ ?_
    · show (lookIn "pop" (dictOf [e1] 1)).map _ = _
      rw [lookIn_dict, hes1 _ rfl]; rfl
    iterate 1 (first | walk1 | (dsimp only; walk1))
    refine pop_nil B' FI1 X' NI1 T' rfl rfl rfl (by k_room) hmdx2 (hes1 _ rfl) ?_
    intro qz hK1 tkK1 tz1 tz2 FK1 NK1 offK
    clear FI1 NI1
    iterate 1 (first | walk1 | (dsimp only; walk1))
    refine newList_N FK1 NK1 ?_ (by rw [sizeLine_eq]; simp)
    intro hL1 FL1 NL1
    dsimp only [WhileStep2]
    refine leaveK_ FL1 NL1 fun FM NM => ?_
    dsimp only at FM NM ⊢
    have e1 : (if (([Value.ref q] : List Value).length : Int) > most then (([Value.ref q] : List Value).length : Int) else most) = 1 + W 256 := by
      have := fin.2.1
      simp only [List.length_cons, List.length_nil]
      split <;> omega
    have e2 : turns + 1 = NN 256 + 1 := fin.2.2
    have e3 : ((([] : List Value).length : Nat) : Int) = 0 := rfl
    rw [e1, e2, e3] at NM
    refine h _ _ _ _ _ _ _ _ _ _ _ _ ?_ FM (news_two NM fun p hp => ?_)
    · rw [join_codes, List.flatMap_map]
      exact fin.1
    · exact List.mem_cons_of_mem _ (List.mem_cons_of_mem _ (List.mem_cons_of_mem _ (hfx p (List.mem_cons_of_mem _ hp))))
  | false =>
    have hz : s0 ≠ 0 := fun e => Bool.false_ne_true (hb1.mpr e)
    iterate 15 (first | walk1 | (dsimp only; walk1))
    refine isnon_call B' FG1 X' NG1 T' rfl rfl rfl (by k_room) ?_
    intro b2 hH1 tkH1 hb2 FH1 NH1
    clear FG1 NG1
    cases b2 with
    | true =>
      have hz2 : 256 ≤ s0 := hb2.mp rfl
      have hσ : ∃ σ', σ = s0 :: σ' ∧ τ = σ' ++ [0] := by
        cases σ with
        | nil => exact absurd (List.cons.inj hτ).1.symm hz
        | cons a b =>
          have e := List.cons.inj hτ
          exact ⟨b, by rw [e.1], e.2.symm⟩
      obtain ⟨σ', rfl, rfl⟩ := hσ
      have hs9 : s0 ≤ 259 := hs0.2
      have hrow : ∃ lk yk, ([.ref l0, .ref l1, .ref l2, .ref l3] : List Value)[(s0 - 256).toNat]? = some (.ref lk) ∧ (lk, LCg.lst yk) ∈ news ∧ IntsAre yk (R s0) := by
        have hc : s0 = 256 ∨ s0 = 257 ∨ s0 = 258 ∨ s0 = 259 := by omega
        rcases hc with e | e | e | e
        · exact ⟨l0, y0, by rw [e]; rfl, h0, by rw [e]; exact i0⟩
        · exact ⟨l1, y1, by rw [e]; rfl, h1, by rw [e]; exact i1⟩
        · exact ⟨l2, y2, by rw [e]; rfl, h2, by rw [e]; exact i2⟩
        · exact ⟨l3, y3, by rw [e]; rfl, h3, by rw [e]; exact i3⟩
      obtain ⟨lk, yk, hlk, hmk, hik⟩ := hrow
      have hrw := G.row s0 hz2 hs9
      have hyl : yk.length ≤ 3 := by rw [hik.length]; exact hrw.2.1
      have hmr2 : (r, LCg.lst [.ref l0, .ref l1, .ref l2, .ref l3]) ∈ (st, accObj dx pre (ep + 1)) :: (tl, PySem.W.listOf (strValues tv).toArray tep) :: (L' + 1, oC2) :: rest := List.mem_cons_of_mem _ (List.mem_cons_of_mem _ (List.mem_cons_of_mem _ (hfx _ (List.mem_cons_of_mem _ hr))))
      have hmk2 : (lk, LCg.lst yk) ∈ (st, accObj dx pre (ep + 1)) :: (tl, PySem.W.listOf (strValues tv).toArray tep) :: (L' + 1, oC2) :: rest := List.mem_cons_of_mem _ (List.mem_cons_of_mem _ (List.mem_cons_of_mem _ (hfx _ (List.mem_cons_of_mem _ hmk))))
      iterate 5 (first | walk1 | (dsimp only; walk1))
      refine For_invV g' (by rfl) (by rfl) ?_
      iterate 7 (first | walk1 | (dsimp only; walk1))
      refine item_litK (News.isList NH1 hmr2) (by omega) (by omega) hlk ?_
      iterate 6 (first | walk1 | (dsimp only; walk1))
      iterate 1 (first | walk1 | (dsimp only; walk1))
      refine kba_turn (value' := PySem.Expr.Name (PySem.Str.ofString "_") ⟨0, 0, 0, 0⟩) (fun _ => rfl) ?_
      rename Fr _ _ _ _ => FQ
      refine krv_ints FQ NH1 (News.isList NH1 hmk2) (IsPart.int _ _) hik ?_ (by with_unfolding_all rfl) (fun _ => rfl) (by rw [List.size_toArray, sizeLine_eq]; omega)
      intro D ws hR1 FR1 NR1 ltD hws hwl
      clear FQ NH1
      dsimp only at FR1 NR1 ⊢
      refine kdl_iter (fun i m₁ nw => ∃ its' ep' rest', nw = (D, PySem.W.listOf ws.toArray 0) :: (st, accObj dx its' ep') :: (tl, PySem.W.listOf (strValues tv).toArray tep) :: (L' + 1, oC2) :: rest' ∧ (∀ p ∈ rest, p ∈ rest') ∧ (∀ p ∈ rest', p.1 ≠ st ∧ p.1 ≠ tl ∧ p.1 ≠ L' + 1) ∧ StkIs rest' its' (((R s0).reverse.take i).reverse ++ (σ' ++ [0])) ∧
        m₁ (Str.ofString "stack") = some (.ref st) ∧ m₁ (Str.ofString "told") = some (.ref tl) ∧ m₁ (Str.ofString "most") = some (.int (if ((pre ++ [Value.ref q]).length : Int) > most then ((pre ++ [Value.ref q]).length : Int) else most) (if ((pre ++ [Value.ref q]).length : Int) > most then tC1 else tm)) ∧ (∃ tt', m₁ (Str.ofString "turns") = some (.int (turns + 1) tt')) ∧ m₁ (Str.ofString "rules") = some (.ref r)) rfl (List.mem_cons_self ..) FR1 NR1 ⟨pre, ep + 1, rest, rfl, fun _ hp => hp, hoff, by simpa using hstk, rfl, rfl, rfl, ⟨_, rfl⟩, rfl⟩ ?_ ?_
      · rintro i v m₁' nw' hh' tk'' own hv hown hDm ⟨its', ep', rest', rfl, hsub, hoff', hstk', a1, a2, a3, ⟨tt', a4⟩, a5⟩ FT NT
        rw [← told5_eq a1 a2 a3 a4 a5] at FT
        have hil : i < (R s0).reverse.length := by rw [← hws.length]; exact (List.getElem?_eq_some_iff.mp hv).1
        obtain ⟨tz, hz3⟩ := hws.get i _ (List.getElem?_eq_getElem hil)
        have ev : v = .int ((R s0).reverse[i]) tz := by rw [hv] at hz3; exact Option.some.inj hz3
        subst ev
        have hzs : Sym ((R s0).reverse[i]) := G.sym hz2 hs9 (List.mem_reverse.mp (List.getElem_mem hil))
        generalize hzz : (R s0).reverse[i] = z at *
        iterate 4 (first | walk1 | (dsimp only; walk1))
        have hstD : @LT.lt Nat _ st D := ltD _ (List.mem_cons_self ..)
        have NT2 : News g' L' hh' ((st, accObj dx its' ep') :: (D, PySem.W.listOf ws.toArray 0) :: (tl, PySem.W.listOf (strValues tv).toArray tep) :: (L' + 1, oC2) :: (rest' ++ own)) := fun p hp => NT p (by
          simp only [List.mem_cons, List.mem_append, List.cons_append] at hp ⊢
          rcases hp with rfl | rfl | rfl | rfl | hp | hp
          · exact .inr (.inl rfl)
          · exact .inl rfl
          · exact .inr (.inr (.inl rfl))
          · exact .inr (.inr (.inr (.inl rfl)))
          · exact .inr (.inr (.inr (.inr (.inl hp))))
          · exact .inr (.inr (.inr (.inr (.inr hp)))))
        have hap : ∀ p ∈ (D, PySem.W.listOf ws.toArray 0) :: (tl, PySem.W.listOf (strValues tv).toArray tep) :: (L' + 1, oC2) :: (rest' ++ own), p.1 ≠ st := fun p hp => by
          simp only [List.mem_cons, List.mem_append] at hp
          rcases hp with rfl | rfl | rfl | hp | hp
          · exact Nat.ne_of_gt hstD
          · exact Nat.ne_of_gt lst
          · exact Nat.ne_of_lt (Nat.lt_trans lcl lds)
          · exact (hoff' p hp).1
          · exact hown p hp st (by simp)
        have hmdT : (dx, dictOf [e1] 1) ∈ (D, PySem.W.listOf ws.toArray 0) :: (tl, PySem.W.listOf (strValues tv).toArray tep) :: (L' + 1, oC2) :: (rest' ++ own) := List.mem_cons_of_mem _ (List.mem_cons_of_mem _ (List.mem_cons_of_mem _ (List.mem_append_left _ (hsub _ hmr))))
        have hlen' := hstk'.length
        have hts : ((R s0).reverse.take i).length ≤ 3 := by
          rw [List.length_take, List.length_reverse]; have := hrw.2.1; omega
        simp only [List.length_append, List.length_reverse, List.length_cons, List.length_nil] at hlen'
        simp only [List.length_cons] at hlt
        refine method_bi (K := Mine.hd.heap_39 w.params) (X'.keeps FT.keep) (accInst NT2 (List.mem_cons_self ..) (List.mem_cons_of_mem _ hmdT)) (by k_is) (by decide +kernel) (by k_is) (by k_is) (by k_is) (by decide +kernel) ?_ ?_
        · show (lookIn "push" (dictOf [e1] 1)).map _ = _
          rw [lookIn_dict, hes1 _ rfl]; rfl
        iterate 10 (first | walk1 | (dsimp only; walk1))
        have hz0 : 0 ≤ z ∧ z ≤ 259 := by rcases hzs with h | h <;> omega
        refine P.str_of_int (Nat.lt_of_le_of_lt (Nat.log2_le_self _) (by omega)) ?_
        iterate 2 (first | walk1 | (dsimp only; walk1))
        refine push_call B' FT X' NT2 T' rfl rfl rfl (by k_room) hmdT hap (hes1 _ rfl) (by omega) ?_
        intro qn hU tkU FU NU qs qr
        refine wpAny_execs_nil ?_
        have hst1 : StkIs ((qn, tupObj [.str (Str.ofString "") tk'', .str (Str.ofString (toString z)) (tk'' + 1)]) :: rest') (its' ++ [.ref qn]) (((R s0).reverse.take (i + 1)).reverse ++ (σ' ++ [0])) := by
          have e : ((R s0).reverse.take (i + 1)).reverse ++ (σ' ++ [0]) = z :: (((R s0).reverse.take i).reverse ++ (σ' ++ [0])) := by
            rw [List.take_add_one, List.getElem?_eq_getElem hil, hzz]
            simp
          rw [e]
          exact .cons (hstk'.mono fun p hp => List.mem_cons_of_mem _ hp) (List.mem_cons_self ..)
        have hcl : @LT.lt Nat _ (L' + 1) D := ltD _ (List.mem_cons_of_mem _ (List.mem_cons_of_mem _ (List.mem_cons_self ..)))
        refine InvEndG.intro (nx := (D, PySem.W.listOf ws.toArray 0) :: (st, accObj dx (its' ++ [.ref qn]) (ep' + 1)) :: (tl, PySem.W.listOf (strValues tv).toArray tep) :: (L' + 1, oC2) :: (qn, tupObj [.str (Str.ofString "") tk'', .str (Str.ofString (toString z)) (tk'' + 1)]) :: rest') FU NU ⟨List.mem_cons_self .., its' ++ [.ref qn], ep' + 1, _, rfl, fun p hp => List.mem_cons_of_mem _ (hsub p hp), ?_, hst1, rfl, rfl, rfl, ⟨_, rfl⟩, rfl⟩ ?_ ?_ ?_
        · intro p hp
          rcases List.mem_cons.mp hp with rfl | hp
          · exact ⟨qs, fun e => qr (tl, _) (List.mem_cons_of_mem _ (List.mem_cons_self ..)) e.symm, fun e => qr (L' + 1, oC2) (List.mem_cons_of_mem _ (List.mem_cons_of_mem _ (List.mem_cons_self ..))) e.symm⟩
          · exact hoff' p hp
        · intro p hp b hb
          simp only [List.map_cons, List.mem_cons] at hb
          have ho : ∀ b ∈ ((D, PySem.W.listOf ws.toArray 0) :: (st, accObj dx its' ep') :: (tl, PySem.W.listOf (strValues tv).toArray tep) :: (L' + 1, oC2) :: rest').map (·.1), p.1 ≠ b := fun b hb => hown p hp b hb
          rcases hb with rfl | rfl | rfl | rfl | rfl | hb
          · exact ho _ (by simp)
          · exact ho _ (by simp)
          · exact ho _ (by simp)
          · exact ho _ (by simp)
          · exact qr p (by simp [hp])
          · exact ho _ (by simp only [List.map_cons, List.mem_cons]; exact .inr (.inr (.inr (.inr hb))))
        · intro p hp
          simp only [List.mem_cons, List.mem_append] at hp ⊢
          rcases hp with rfl | rfl | rfl | rfl | rfl | hp
          · exact .inr (.inr (.inl rfl))
          · exact .inl rfl
          · exact .inr (.inr (.inr (.inl rfl)))
          · exact .inr (.inr (.inr (.inr (.inl rfl))))
          · exact .inr (.inl rfl)
          · exact .inr (.inr (.inr (.inr (.inr (.inl hp)))))
        · intro p hp
          simp only [List.mem_cons, List.mem_append]
          exact .inr (.inr (.inr (.inr (.inr (.inr hp)))))
      · rintro m₁' nw' hh' tk'' ⟨its', ep', rest', rfl, hsub, hoff', hstk', a1, a2, a3, ⟨tt', a4⟩, a5⟩ FT NT
        dsimp only
        refine wpAny_execs_nil ?_
        refine wpAny_execs_nil ?_
        have hall : ((R s0).reverse.take ws.length).reverse = R s0 := by
          rw [hws.length, List.take_length, List.reverse_reverse]
        rw [hall, ← List.append_assoc] at hstk'
        have hm2 : (if ((pre ++ [Value.ref q]).length : Int) > most then ((pre ++ [Value.ref q]).length : Int) else most) = max most (((s0 :: σ').length + 1 : Nat) : Int) := by
          rw [hlen]
          simp only [List.length_append, List.length_cons, List.length_nil]
          split <;> omega
        refine ⟨hh', tk'', m₁', (st, accObj dx its' ep') :: (tl, PySem.W.listOf (strValues tv).toArray tep) :: (L' + 1, oC2) :: rest', (200 - (turns + 1)).toNat, rfl, FT, fun p hp => NT p (List.mem_cons_of_mem _ hp), by omega, ⟨R s0 ++ σ', its', ep', tv, tep, _, turns + 1, _, tt', oC2, rest', rfl, fun p hp => hsub p (hfx p hp), hoff', hstk', ⟨_, dC2⟩, a1, a2, a3, a4, a5, ?_, by omega, hone, rfl⟩⟩
        rw [hm2]
        exact M1.non G hz2 hs9
    | false =>
      have hz0 := hz
      have hz : ¬ 256 ≤ s0 := fun e => Bool.false_ne_true (hb2.mpr e)
      iterate 14 (first | walk1 | (dsimp only; walk1))
      rename Fr _ _ _ _ => FH1
      rename News _ _ _ _ => NH1
      refine isterm_call B' FH1 X' NH1 T' rfl rfl rfl (by k_room) ?_
      intro b3 hI1 tkI1 hb3 FI1 NI1
      clear FH1 NH1
      have : b3 = true := hb3.mpr (by omega)
      subst this
      iterate 11 (first | walk1 | (dsimp only; walk1))
      iterate 1 (first | walk1 | (dsimp only; walk1))
      refine comp_signs FI1 X' (by rfl) (by decide) (by rfl) (by decide) (by rfl) ?_
      iterate 1 (first | walk1 | (dsimp only; walk1))
      refine ⟨rfl, rfl, _, FI1, NI1, fun gg => signs_turns s0 ?te ?el ?fin _ 0 [] (by omega) .nil⟩
      case te =>
        intro p t I oI C oC D m₂ h tk E' ys hp hC hx F N
        replace hx : m₂ (Str.ofString "sign") = some (.str p.1 t) := hx
        iterate 4 (first | walk1 | (dsimp only; walk1))
        refine sign_item F X' hp ?_
        iterate 3 (first | walk1 | (dsimp only; walk1))
        exact ⟨rfl, _, rfl⟩
      case el =>
        intro k t I oI C oC D m₂ h tk E' ys hC hx F N
        iterate 1 (first | walk1 | (dsimp only; walk1))
        exact ⟨_, _, rfl, rfl⟩
      case fin =>
        intro ys hys
        have hσ : ∃ σ', σ = s0 :: σ' ∧ τ = σ' ++ [0] := by
          cases σ with
          | nil => exact absurd (List.cons.inj hτ).1.symm hz0
          | cons a b =>
            have e := List.cons.inj hτ
            exact ⟨b, by rw [e.1], e.2.symm⟩
        obtain ⟨σ', rfl, rfl⟩ := hσ
        have h714 : 7 ≤ s0 ∧ s0 ≤ 14 := by
          rcases M1.sym s0 (List.mem_cons_self ..) with z | z <;> omega
        obtain ⟨c, hc1, hc2⟩ := signs_pick h714.1 h714.2
        rw [hc1] at hys
        obtain ⟨tc, rfl⟩ := hys.one
        intro D hJ tkJ FJ NJ offJ
        dsimp only
        iterate 3 (first | walk1 | (dsimp only; walk1))
        have NJ1 : News g' L' hJ ((st, accObj dx pre (ep + 1)) :: (tl, PySem.W.listOf (strValues tv).toArray tep) :: (L' + 1, oC2) :: rest) := fun p hp => NJ p (List.mem_cons_of_mem _ hp)
        have htv : tv.length ≤ 200 := by omega
        refine append_K FJ NJ1 (.tail (Nat.ne_of_lt lst) (.head fun p hp => ?_)) ?_ (by rw [List.size_toArray, sizeLine_eq, strValues, List.length_map]; omega)
        · rcases List.mem_cons.mp hp with rfl | hp
          · exact Nat.ne_of_lt (Nat.lt_trans lcl (Nat.lt_trans lds lst))
          · exact (hoff p hp).2.1
        intro hM FM NM
        have etv : (strValues tv).toArray.push (.str c tc) = (strValues (tv ++ [(c, tc)])).toArray := by simp [strValues]
        rw [etv] at NM
        refine wpAny_execs_nil ?_
        refine wpAny_execs_nil ?_
        refine wpAny_execs_nil ?_
        have hm2 : (if ((pre ++ [Value.ref q]).length : Int) > most then ((pre ++ [Value.ref q]).length : Int) else most) = max most (((s0 :: σ').length + 1 : Nat) : Int) := by
          rw [hlen]
          simp only [List.length_append, List.length_cons, List.length_nil]
          split <;> omega
        refine ⟨hM, _, _, (st, accObj dx pre (ep + 1)) :: (tl, PySem.W.listOf (strValues (tv ++ [(c, tc)])).toArray (tep + 1)) :: (L' + 1, oC2) :: rest, (200 - (turns + 1)).toNat, rfl, FM, NM, by omega, ⟨σ', pre, ep + 1, tv ++ [(c, tc)], tep + 1, _, turns + 1, _, _, oC2, rest, rfl, hfx, hoff, hstk, ⟨_, dC2⟩, rfl, rfl, rfl, rfl, rfl, ?_, by rw [List.length_append, List.length_singleton]; omega, ?_, rfl⟩⟩
        · rw [hm2, List.flatMap_append, List.flatMap_singleton, hc2]
          exact M1.term G h714.1 h714.2
        · intro x hx
          rw [List.map_append, List.mem_append] at hx
          rcases hx with hx | hx
          · exact hone x hx
          · rw [List.map_singleton, List.mem_singleton] at hx
            rw [hx]
            show c.cps.size ≤ 1
            rw [← Array.length_toList, hc2]
            unfold sg
            repeat' split
            all_goals simp
end
end Mine
end
section
namespace Mine
theorem top_off_W4a : True := by
  w_top off
  trivial
end Mine
open PySem PySem.W PyProof.Rows PySem.Calls
set_option maxRecDepth 100000
set_option maxHeartbeats 4000000
namespace Mine
section
variable {R : Int → List Int} {T : Int → List Nat} {W N : Int → Int}
def ml (W : Int → Int) : List Int → List Int
  | [] => []
  | o :: r => ((r.length : Int) + W o) :: ml W r
theorem ml_len : ∀ l : List Int, (ml W l).length = l.length
  | [] => rfl
  | _ :: r => by show (ml W r).length + 1 = r.length + 1; rw [ml_len r]
theorem ml_get : ∀ (l : List Int) (j : Nat), (ml W l)[j]? = l[j]?.map fun o => ((l.length : Int) - 1 - j) + W o
  | [], _ => rfl
  | o :: r, 0 => by
    show some ((r.length : Int) + W o) = some ((((r.length + 1 : Nat) : Int) - 1 - ((0 : Nat) : Int)) + W o)
    congr 1
    omega
  | o :: r, j + 1 => by
    show (ml W r)[j]? = (r[j]?).map fun o => (((r.length + 1 : Nat) : Int) - 1 - ((j + 1 : Nat) : Int)) + W o
    rw [ml_get r j]
    cases r[j]? with
    | none => rfl
    | some q =>
      show some (((r.length : Int) - 1 - (j : Int)) + W q) = some ((((r.length + 1 : Nat) : Int) - 1 - ((j + 1 : Nat) : Int)) + W q)
      congr 1
      omega
theorem ml_le : ∀ (l : List Int) (a : Int), a ∈ ml W l → a ≤ mx W l
  | [], a, h => by cases h
  | o :: r, a, h => by
    show a ≤ max _ _
    rcases List.mem_cons.mp h with h | h
    · rw [h]; omega
    · have := ml_le r a h; omega
theorem ml_mem : ∀ l : List Int, l ≠ [] → (∀ o ∈ l, 1 ≤ W o) → mx W l ∈ ml W l
  | [], h, _ => absurd rfl h
  | [o], _, h => by
    have := h o (List.mem_cons_self ..)
    show max ((([] : List Int).length : Int) + W o) 0 ∈ [((([] : List Int).length : Int) + W o)]
    rw [List.mem_singleton, List.length_nil]
    omega
  | o :: p :: r, _, h => by
    have ih := ml_mem (p :: r) (by simp) fun x hx => h x (List.mem_cons_of_mem _ hx)
    show max _ (mx W (p :: r)) ∈ _ :: ml W (p :: r)
    rcases Int.le_total (((p :: r).length : Int) + W o) (mx W (p :: r)) with q | q
    · rw [Int.max_eq_right q]; exact List.mem_cons_of_mem _ ih
    · rw [Int.max_eq_left q]; exact List.mem_cons_self ..
theorem ml_max {l : List Int} {M : Int} (hne : l ≠ []) (hW : ∀ o ∈ l, 1 ≤ W o) (h1 : M ∈ ml W l) (h2 : ∀ a, a ∈ ml W l → a ≤ M) : M = mx W l :=
  Int.le_antisymm (ml_le l M h1) (h2 _ (ml_mem l hne hW))

theorem len_sum : ∀ {l : List Int}, (∀ o ∈ l, ((T o).length : Int) ≤ N o) → ((l.flatMap T).length : Int) ≤ (l.map N).sum
  | [], _ => by simp
  | o :: r, h => by
    have h1 := h o (List.mem_cons_self ..)
    have h2 := len_sum (l := r) fun x hx => h x (List.mem_cons_of_mem _ hx)
    rw [List.flatMap_cons, List.length_append, List.map_cons, List.sum_cons]
    omega
theorem sg_len (s : Int) : (sg s).length = 1 := by
  unfold sg
  repeat' split
  all_goals rfl
theorem Gram.len (G : Gram R T W N) : ∀ (k : Nat) (s : Int), s = 259 - k → k ≤ 3 → ((T s).length : Int) ≤ N s
  | k, s, hs, hk => by
    rw [G.nN s (by omega) (by omega), G.nT s (by omega) (by omega)]
    have h1 : ∀ o ∈ R s, ((T o).length : Int) ≤ N o := by
      intro o ho
      rcases (G.row s (by omega) (by omega)).2.2 o ho with h | h
      · rw [G.tT o h.1 h.2, G.tN o h.1 h.2, sg_len]; exact Int.le_refl _
      · exact Gram.len G (259 - o).toNat o (by omega) (by omega)
    have := len_sum h1
    omega
termination_by k => k
theorem Gram.len121 (G : Gram R T W N) {s : Int} (h0 : 256 ≤ s) (h1 : s ≤ 259) : (T s).length ≤ 121 := by
  have a := G.len (259 - s).toNat s (by omega) (by omega)
  have b := (G.low (259 - s).toNat s (by omega) (by omega)).2.2
  have : (if (259 - s).toNat = 0 then (4 : Int) else if (259 - s).toNat = 1 then 13 else if (259 - s).toNat = 2 then 40 else 121) ≤ 121 := by
    repeat' split
    all_goals omega
  omega
end
theorem seven_cps {o : Int} (h0 : 7 ≤ o) (h1 : o ≤ 14) : (Txt.item (Str.ofString "()[]:,;+") (o - 7)).cps.toList = sg o := by
  have : o = 7 ∨ o = 8 ∨ o = 9 ∨ o = 10 ∨ o = 11 ∨ o = 12 ∨ o = 13 ∨ o = 14 := by omega
  rcases this with rfl | rfl | rfl | rfl | rfl | rfl | rfl | rfl <;> decide +kernel
theorem valueAt_stored {kvs : List (Int × Value)} {k z : Int} {v : Value} (hk : valueAt kvs k = none) : valueAt (stored kvs k v) z = if z = k then some v else valueAt kvs z := by
  have hnone : kvs.any (fun kv => decide (kv.1 = k)) = false := by
    rw [← valueAt_isSome_eq_any, hk]; rfl
  unfold stored
  rw [hnone, if_neg (by decide)]
  unfold valueAt
  rw [List.find?_append]
  by_cases e : z = k
  · subst e
    rw [if_pos rfl]
    have : kvs.find? (fun kv => decide (kv.1 = z)) = none := by
      unfold valueAt at hk
      exact Option.map_eq_none_iff.mp hk
    rw [this]
    simp
  · rw [if_neg e]
    cases kvs.find? (fun kv => decide (kv.1 = z)) with
    | some q => rfl
    | none =>
      simp [Ne.symm e]
noncomputable section
variable {w : World} {base h₀ : Heap} {L : Addr} {m mg mb : Str → Option Value} {mean : ExcName → Option Value} {env : Env} {news : List (Addr × Obj)} {s : Shared} {Q : Value → Shared → Prop} {E : Value → Shared → Prop} {LS : List Str}

structure ValOut (Good : Value → Prop) (s : Shared) (h : Heap) (y : Value) (s₂ : Shared) : Prop where
  out : ∃ tk', Good y ∧ s₂ = { s with heap := h, toks := tk' }
theorem ValOut.of {Good : Value → Prop} {s : Shared} {h : Heap} {y : Value} {tk : Nat} (g : Good y) : ValOut Good s h y { s with heap := h, toks := tk } := ⟨tk, g, rfl⟩
theorem comp_rel {prog : Program} {A : Around} {elt : Expr} {x : Str} {scope : Scope} {cl : List (Str × Addr)} {S : List (Addr × Obj) → Prop} {P : Nat → Value → Prop} {Fin : List Value → List (Addr × Obj) → Prop} {n : Nat} (J : Nat → List Value → Prop) (hS : S news)
    (el : ∀ i v I oI C oC D m₂ h tk (E' : Value → Shared → Prop) ys, i < n → J i ys → P i v → LCg.NsObj oC m₂ → m₂ x = some v → Fr h₀ L h m → News h₀ L h ((I, oI) :: (C, oC) :: (D, LCg.lst ys) :: news) →
      wpAny (model prog w) A (eval elt (compEnvC scope cl C env)) (ValOut (fun y => J (i + 1) (ys ++ [y])) s h) E' { s with heap := h, toks := tk })
    (fin : ∀ ys, J n ys → Fin ys news) :
    ∀ k i ys, i + k = n → J i ys → LCg.CompRest prog w A h₀ L m env elt x scope cl s S P Fin k i ys news
  | 0, i, ys, hi, hJ => fin ys (by have e : i = n := by omega
                                   rw [← e]; exact hJ)
  | k + 1, i, ys, hi, hJ => by
    refine LCg.CompRest.succ ?_
    intro v I oI C oC D m₂ h tk E' hP hC hx F N off ne
    refine wpAny_mono (el i v I oI C oC D m₂ h tk E' ys (by omega) hJ hP hC hx F N) (fun y s₂ out => ?_) fun _ _ e => e
    obtain ⟨tk', gz, rfl⟩ := out.out
    exact ⟨h, tk', news, rfl, F, N, off, hS, comp_rel J hS el fin k (i + 1) _ (by omega) gz⟩

theorem krs_inv {prog : Program} {A : Around} {x : Str} {body : List Stmt} {Q : Flow → Shared → Prop} {I : Addr} {a c : Int} {n : Nat} (J : Nat → (Str → Option Value) → List (Addr × Obj) → Prop)
    (turn : ∀ i m₁ nw t h tk, i < n → J i m₁ nw → Fr h₀ env.locals h (fun y => if y = x then some (.int (a + (i : Int) * c) t) else m₁ y) →
      News h₀ env.locals h ((I, krsIt (a + ((i + 1 : Nat) : Int) * c) ((n : Int) - ((i + 1 : Nat) : Int)) c) :: nw) →
      wpAny (model prog w) A (execs body env) (UnrPost h₀ env.locals { s with heap := h, toks := tk } I (krsIt (a + ((i + 1 : Nat) : Int) * c) ((n : Int) - ((i + 1 : Nat) : Int)) c) (J (i + 1)) Q) E { s with heap := h, toks := tk })
    (done : ∀ m₁ nw h tk, J n m₁ nw → Fr h₀ env.locals h m₁ → News h₀ env.locals h nw → Q .next { s with heap := h, toks := tk }) :
    ∀ k i m₁ nw, i + k = n → J i m₁ nw → KrsRest prog w A E h₀ env x body Q s I a c n k i m₁ nw
  | 0, i, m₁, nw, hi, hJ => KrsRest.zero fun h tk F N => done m₁ nw h tk (by have e : i = n := by omega
                                                                             rw [← e]; exact hJ) F N
  | k + 1, i, m₁, nw, hi, hJ => by
    refine KrsRest.succ rfl fun t h tk F N => ?_
    refine wpAny_mono (turn i m₁ nw t h tk (by omega) hJ F N) (fun f s₂ p => ?_) fun _ _ e => e
    have up : UnrEnd h₀ env.locals { s with heap := h, toks := tk } I (krsIt (a + ((i + 1 : Nat) : Int) * c) ((n : Int) - ((i + 1 : Nat) : Int)) c) (J (i + 1)) s₂ →
        UnrEnd h₀ env.locals { s with heap := h, toks := tk } I (krsIt (a + ((i + 1 : Nat) : Int) * c) ((n : Int) - ((i + 1 : Nat) : Int)) c) (KrsRest prog w A E h₀ env x body Q s I a c n k (i + 1)) s₂ := by
      rintro ⟨h', tk', m', news', e, F', N', ho, r⟩
      exact ⟨h', tk', m', news', e, F', N', ho, krs_inv J turn done k (i + 1) m' news' (by omega) r⟩
    cases f with
    | ret v => exact p
    | brk => exact p
    | next => exact up p
    | cont => exact up p
structure TabT (TT : Int → List Nat) (i : Nat) (kvs : List (Int × Value)) : Prop where
  len : kvs.length ≤ i
  no : ∀ z : Int, z < 260 - i → valueAt kvs z = none
  got : ∀ z : Int, 260 - i ≤ z → z ≤ 259 → ∃ x t, valueAt kvs z = some (.str x t) ∧ x.cps.toList = TT z
structure TabI (W : Int → Int) (i : Nat) (kvs : List (Int × Value)) : Prop where
  len : kvs.length ≤ i
  no : ∀ z : Int, z < 260 - i → valueAt kvs z = none
  got : ∀ z : Int, 260 - i ≤ z → z ≤ 259 → ∃ t, valueAt kvs z = some (.int (W z) t)
theorem TabT.more {TT : Int → List Nat} {i : Nat} {kvs : List (Int × Value)} {k : Int} {x : Str} {t : Tok} (T : TabT TT i kvs) (hk : k = 259 - i) (hx : x.cps.toList = TT k) : TabT TT (i + 1) (stored kvs k (.str x t)) := by
  have hn := T.no k (by omega)
  refine ⟨?_, fun z hz => ?_, fun z h0 h1 => ?_⟩
  · have := stored_length_le kvs k (.str x t); have := T.len; omega
  · rw [valueAt_stored hn, if_neg (by omega)]; exact T.no z (by omega)
  · rw [valueAt_stored hn]
    by_cases e : z = k
    · rw [if_pos e, e]; exact ⟨x, t, rfl, hx⟩
    · rw [if_neg e]; exact T.got z (by omega) h1
theorem TabI.more {W : Int → Int} {i : Nat} {kvs : List (Int × Value)} {k : Int} {z : Int} {t : Tok} (T : TabI W i kvs) (hk : k = 259 - i) (hx : z = W k) : TabI W (i + 1) (stored kvs k (.int z t)) := by
  have hn := T.no k (by omega)
  refine ⟨?_, fun z hz => ?_, fun q h0 h1 => ?_⟩
  · have := stored_length_le kvs k (.int z t); have := T.len; omega
  · rw [valueAt_stored hn, if_neg (by omega)]; exact T.no z (by omega)
  · rw [valueAt_stored hn]
    by_cases e : q = k
    · rw [if_pos e, e, hx]; exact ⟨t, rfl⟩
    · rw [if_neg e]; exact T.got q (by omega) h1
structure DueJ (prog : Program) (w : World) (TT : Int → List Nat) (W NN : Int → Int) (r cR cN cW cT dT dW dN : Addr) (oN2 oW2 oT2 : Obj) (news : List (Addr × Obj)) (i : Nat) (m₁ : Str → Option Value) (nw : List (Addr × Obj)) : Prop where
  ex : ∃ (oR oTd oWd oNd : Obj) (kT kW kN : List (Int × Value)), nw = (cR, oR) :: (cN, oN2) :: (cW, oW2) :: (cT, oT2) :: (dT, oTd) :: (dW, oWd) :: (dN, oNd) :: news ∧ (∃ v, oR.data = .cell v) ∧ oTd.IsDictOf (intKind prog w) kT ∧ oWd.IsDictOf (intKind prog w) kW ∧ oNd.IsDictOf (intKind prog w) kN ∧
    TabT TT i kT ∧ TabI W i kW ∧ TabI NN i kN ∧ m₁ (Str.ofString "rules") = some (.ref r)
theorem due1_eq {e : Option Value} {m : Str → Option Value} (h : m (Str.ofString "rules") = e) : (fun y => if y = Str.ofString "rules" then e else m y) = m := by
  funext y
  split
  · rename_i q; rw [q, h]
  · rfl

theorem tv_codes {TT : Int → List Nat} {tv : List (Str × Tok)} {row : List Int} (h : tv.map (fun p => p.1.cps.toList) = row.map TT) : (tv.map (·.1)).flatMap (·.cps.toList) = row.flatMap TT := by
  rw [List.flatMap_def, List.map_map, List.flatMap_def]
  exact congrArg List.flatten h
theorem texts_len : ∀ texts : List Str, (texts.map (·.length)).sum = (texts.flatMap (·.cps.toList)).length
  | [] => rfl
  | x :: r => by
    rw [List.map_cons, List.sum_cons, List.flatMap_cons, List.length_append, texts_len r, Array.length_toList]
    rfl
theorem news_pair {h : Heap} {a b : Addr × Obj} {rest nw : List (Addr × Obj)} (N : News h₀ L h (a :: b :: rest)) (hs : ∀ p ∈ nw, p ∈ rest) : News h₀ L h (a :: b :: nw) := fun p hp => N p (by
  rcases List.mem_cons.mp hp with rfl | hp
  · exact List.mem_cons_self ..
  · rcases List.mem_cons.mp hp with rfl | hp
    · exact List.mem_cons_of_mem _ (List.mem_cons_self ..)
    · exact List.mem_cons_of_mem _ (List.mem_cons_of_mem _ (hs p hp)))
theorem comp_grow {prog : Program} {A : Around} {elt : Expr} {x : Str} {scope : Scope} {cl : List (Str × Addr)} {S : List (Addr × Obj) → Prop} {P : Nat → Value → Prop} {Fin : List Value → List (Addr × Obj) → Prop} {n : Nat} (J : Nat → List Value → List (Addr × Obj) → Prop)
    (el : ∀ i v I oI C oC D m₂ h tk (E' : Value → Shared → Prop) ys nw, i < n → J i ys nw → P i v → LCg.NsObj oC m₂ → m₂ x = some v → Fr h₀ L h m → News h₀ L h ((I, oI) :: (C, oC) :: (D, LCg.lst ys) :: nw) → LCg.Off3 I C D nw →
      wpAny (model prog w) A (eval elt (compEnvC scope cl C env)) (LCg.CompEnd h₀ L m { s with heap := h, toks := tk } I oI C oC D (LCg.lst ys) S (fun y nw' => J (i + 1) (ys ++ [y]) nw')) E' { s with heap := h, toks := tk })
    (fin : ∀ ys nw, J n ys nw → Fin ys nw) :
    ∀ k i ys nw, i + k = n → J i ys nw → LCg.CompRest prog w A h₀ L m env elt x scope cl s S P Fin k i ys nw
  | 0, i, ys, nw, hi, hJ => fin ys nw (by have e : i = n := by omega
                                          rw [← e]; exact hJ)
  | k + 1, i, ys, nw, hi, hJ => by
    refine LCg.CompRest.succ ?_
    intro v I oI C oC D m₂ h tk E' hP hC hx F N off ne
    refine wpAny_mono (el i v I oI C oC D m₂ h tk E' ys nw (by omega) hJ hP hC hx F N off) (fun y s₂ out => ?_) fun _ _ e => e
    obtain ⟨h', tk', nw', e, F', N', off', hS', hJ'⟩ := out
    exact ⟨h', tk', nw', e, F', N', off', hS', comp_grow J el fin k (i + 1) _ nw' (by omega) hJ'⟩
structure RulesJ (cC : Addr) (oC : Obj) (c5 : Addr) (o5 : Obj) (i : Nat) (ys : List Value) (nw : List (Addr × Obj)) : Prop where
  ex : ∃ rs : List (Addr × List Value × List Int), rs.length = i ∧ ys = rs.map (fun e => Value.ref e.1) ∧ (∀ (j : Nat) (e : Addr × List Value × List Int), rs[j]? = some e → (e.1, LCg.lst e.2.1) ∈ nw ∧ IntsAre e.2.1 e.2.2 ∧ RowOk (256 + (j : Int)) e.2.2) ∧ (cC, oC) ∈ nw ∧ (c5, o5) ∈ nw
theorem RulesJ.start {cC c5 : Addr} {oC o5 : Obj} {nw : List (Addr × Obj)} (h1 : (cC, oC) ∈ nw) (h2 : (c5, o5) ∈ nw) : RulesJ cC oC c5 o5 0 [] nw := ⟨[], rfl, rfl, fun j e h => by simp at h, h1, h2⟩
theorem RulesJ.more {cC c5 : Addr} {oC o5 : Obj} {i : Nat} {ys : List Value} {nw : List (Addr × Obj)} {l : Addr} {yk : List Value} {row : List Int} (J : RulesJ cC oC c5 o5 i ys nw) (hi : IntsAre yk row) (hr : RowOk (256 + (i : Int)) row) :
    RulesJ cC oC c5 o5 (i + 1) (ys ++ [.ref l]) ((l, LCg.lst yk) :: nw) := by
  obtain ⟨rs, rfl, rfl, hrs, h1, h2⟩ := J.ex
  refine ⟨rs ++ [(l, yk, row)], by simp, by simp, fun j e h => ?_, List.mem_cons_of_mem _ h1, List.mem_cons_of_mem _ h2⟩
  rw [List.getElem?_append] at h
  split at h
  · obtain ⟨a, b⟩ := hrs j e h
    exact ⟨List.mem_cons_of_mem _ a, b⟩
  · rename_i hj
    have hj0 : j - rs.length = 0 := by
      cases hq : j - rs.length with
      | zero => rfl
      | succ n => rw [hq] at h; simp at h
    rw [hj0] at h
    have e1 : (l, yk, row) = e := Option.some.inj h
    have e2 : j = rs.length := by omega
    rw [← e1, e2]
    exact ⟨List.mem_cons_self .., hi, hr⟩
def rowsOf (a b c d : List Int) (s : Int) : List Int := if s = 256 then a else if s = 257 then b else if s = 258 then c else d
theorem RulesJ.four {cC c5 : Addr} {oC o5 : Obj} {ys : List Value} {nw : List (Addr × Obj)} (J : RulesJ cC oC c5 o5 4 ys nw) : ∃ (l0 l1 l2 l3 : Addr) (y0 y1 y2 y3 : List Value) (R : Int → List Int),
    ys = [.ref l0, .ref l1, .ref l2, .ref l3] ∧ (l0, LCg.lst y0) ∈ nw ∧ (l1, LCg.lst y1) ∈ nw ∧ (l2, LCg.lst y2) ∈ nw ∧ (l3, LCg.lst y3) ∈ nw ∧ IntsAre y0 (R 256) ∧ IntsAre y1 (R 257) ∧ IntsAre y2 (R 258) ∧ IntsAre y3 (R 259) ∧ (∀ s, 256 ≤ s → s ≤ 259 → RowOk s (R s)) := by
  obtain ⟨rs, hl, rfl, hrs, _, _⟩ := J.ex
  match rs, hl, hrs with
  | [a, b, c, d], _, hrs =>
    have h0 := hrs 0 a rfl
    have h1 := hrs 1 b rfl
    have h2 := hrs 2 c rfl
    have h3 := hrs 3 d rfl
    refine ⟨a.1, b.1, c.1, d.1, a.2.1, b.2.1, c.2.1, d.2.1, rowsOf a.2.2 b.2.2 c.2.2 d.2.2, rfl, h0.1, h1.1, h2.1, h3.1, h0.2.1, h1.2.1, h2.2.1, h3.2.1, fun s hs0 hs1 => ?_⟩
    have hc : s = 256 ∨ s = 257 ∨ s = 258 ∨ s = 259 := by omega
    rcases hc with rfl | rfl | rfl | rfl
    · exact h0.2.2
    · exact h1.2.2
    · exact h2.2.2
    · exact h3.2.2
theorem sg_low (s : Int) : ∀ c ∈ sg s, c < 1114112 := by
  unfold sg
  repeat' split
  all_goals (intro c hc; rw [List.mem_singleton.mp hc]; decide)
theorem Gram.codes {R : Int → List Int} {T : Int → List Nat} {W N : Int → Int} (G : Gram R T W N) : ∀ (k : Nat) (s : Int), s = 259 - k → k ≤ 3 → ∀ c ∈ T s, c < 1114112
  | k, s, hs, hk, c, hc => by
    rw [G.nT s (by omega) (by omega), List.mem_flatMap] at hc
    obtain ⟨o, ho, hc⟩ := hc
    rcases (G.row s (by omega) (by omega)).2.2 o ho with h | h
    · rw [G.tT o h.1 h.2] at hc; exact sg_low o c hc
    · exact Gram.codes G (259 - o).toNat o (by omega) (by omega) c hc
termination_by k => k
theorem Gram.text_ok {R : Int → List Int} {T : Int → List Nat} {W N : Int → Int} (G : Gram R T W N) {x : Str} (hx : x.cps.toList = T 256) : PyData.strOk x = true := by
  unfold PyData.strOk
  rw [← Array.all_toList, hx, List.all_eq_true]
  intro c hc
  exact decide_eq_true (G.codes 3 256 (by omega) (by omega) c hc)
theorem eq_five {prog : Program} {A : Around} {la lb qa qb : Addr} {x : Str} {a b : Int} {t1 t2 t3 t4 t5 t6 t7 t8 u1 u2 u3 u4 : Tok} {ea eb na nb : Nat} (N : News h₀ L s.heap news)
    (ma : (la, ({ cls := .type "list", data := .seq #[.str x t1, .int a t2, .int b t3, .int 0 t4, .ref qa] ea } : Obj)) ∈ news) (mqa : (qa, ({ cls := .type "tuple", data := .seq #[.str (Str.ofString "") u1, .str (Str.ofString "") u2] na } : Obj)) ∈ news)
    (mb : (lb, ({ cls := .type "list", data := .seq #[.str x t5, .int a t6, .int b t7, .int 0 t8, .ref qb] eb } : Obj)) ∈ news) (mqb : (qb, ({ cls := .type "tuple", data := .seq #[.str (Str.ofString "") u3, .str (Str.ofString "") u4] nb } : Obj)) ∈ news)
    (hx : PyData.strOk x = true) (hu : A.units + 64 < cLine) (h : Q (.bool true) s) : wpAny (model prog w) A (compareOp .Eq (.ref la) (.ref lb)) Q E s := by
  have he : PyData.strOk (Str.ofString "") = true := by decide +kernel
  have hs : PySem.SeqAt.shaped (.list [.str x, .int a, .int b, .int 0, .tuple [.str (Str.ofString ""), .str (Str.ofString "")]]) = true := by
    simp [PySem.SeqAt.shaped, PyData.canLay0, PyData.canLayAll0, PyData.depth, PyData.depthAll, hx, he]
  have rd : ∀ {l q : Addr} {v1 v2 v3 v4 v5 v6 : Tok} {n1 n2 : Nat}, (l, ({ cls := .type "list", data := .seq #[.str x v1, .int a v2, .int b v3, .int 0 v4, .ref q] n1 } : Obj)) ∈ news → (q, ({ cls := .type "tuple", data := .seq #[.str (Str.ofString "") v5, .str (Str.ofString "") v6] n2 } : Obj)) ∈ news →
      ∃ as, Reads s.heap (.ref l) (.list [.str x, .int a, .int b, .int 0, .tuple [.str (Str.ofString ""), .str (Str.ofString "")]]) as := fun h1 h2 =>
    ⟨_, reads_list_at (N _ h1).1 rfl rfl (ReadsAll.cons (Reads.str _ _) (ReadsAll.cons (Reads.int _ _) (ReadsAll.cons (Reads.int _ _) (ReadsAll.cons (Reads.int _ _) (ReadsAll.cons (reads_tuple_at (N _ h2).1 rfl rfl (ReadsAll.cons (Reads.str _ _) (ReadsAll.cons (Reads.str _ _) ReadsAll.nil))) ReadsAll.nil)))))⟩
  obtain ⟨as, ra⟩ := rd ma mqa
  obtain ⟨bs, rb⟩ := rd mb mqb
  refine eq_dataH ra rb hs hs hu ?_
  have e : PyData.eqv (.list [.str x, .int a, .int b, .int 0, .tuple [.str (Str.ofString ""), .str (Str.ofString "")]]) (.list [.str x, .int a, .int b, .int 0, .tuple [.str (Str.ofString ""), .str (Str.ofString "")]]) = true := by
    simp [PyData.eqv, PyData.eqvAll]
  rw [e]
  exact h
end
end Mine
end
section
namespace Mine
theorem top_off_W4 : True := by
  w_top off
  trivial
end Mine
open PySem PySem.W PyProof.Rows PySem.Calls
set_option maxRecDepth 100000
set_option maxHeartbeats 8000000
namespace Mine
noncomputable section
variable {w : World} {base h₀ : Heap} {L : Addr} {m mg mb : Str → Option Value} {mean : ExcName → Option Value} {env : Env} {news : List (Addr × Obj)} {s : Shared} {Q : Value → Shared → Prop} {E : Value → Shared → Prop} {LS : List Str}

theorem due_call {r l0 l1 l2 l3 : Addr} {y0 y1 y2 y3 : List Value} {R : Int → List Int} {TT : Int → List Nat} {W NN : Int → Int} (B : Below callerA base [] h₀) (F : Fr h₀ L s.heap m) (X : (Mine.hd.heap_39 w.params).In h₀) (N : News h₀ L s.heap news) (T : Top Mine.hd.view_39 LS mean mg mb h₀)
    (hf : env.frame = some L) (hke : env.scope.kind = .function) (G : Gram R TT W NN)
    (hr : (r, LCg.lst [.ref l0, .ref l1, .ref l2, .ref l3]) ∈ news) (h0 : (l0, LCg.lst y0) ∈ news) (h1 : (l1, LCg.lst y1) ∈ news) (h2 : (l2, LCg.lst y2) ∈ news) (h3 : (l3, LCg.lst y3) ∈ news)
    (i0 : IntsAre y0 (R 256)) (i1 : IntsAre y1 (R 257)) (i2 : IntsAre y2 (R 258)) (i3 : IntsAre y3 (R 259))
    (h : ∀ l q h' tk tx t1 t2 t3 t4 u1 u2 ep, tx.cps.toList = TT 256 → Fr h₀ L h' m → News h₀ L h' ((l, { cls := .type "list", data := .seq #[.str tx t1, .int (1 + W 256) t2, .int (NN 256 + 1) t3, .int 0 t4, .ref q] ep }) :: (q, { cls := .type "tuple", data := .seq [.str (Str.ofString "") u1, .str (Str.ofString "") u2].toArray }) :: news) → Q (.ref l) { s with heap := h', toks := tk }) :
    wpAny (model PySem.Challenge.rw_pe0139_01.row.prog w) (callerA.deeper env) (call (.ref 144) [.ref r]) Q E s := by
  have hfill : (Mine.hd.heap_39 w.params).In h₀ → PySem.Challenge.rw_pe0139_01.row.prog = PySem.Challenge.rw_pe0139_01.row.prog := by k_fill; intro _; rfl
  clear hfill
  refine wpAny_call ?_
  refine' code_defC B F X N T ?kA hf hke ?k6 ?k7 ?k8 ?k9 ?kB ?kD ?_ ?c2 ?c3 ?c4
  case kA => exact rfl
  case k6 => k_is
  case k7 => k_is
  case k8 => k_room
  case k9 => exact BindsTo.of_eq rfl
  case kB => exact rfl
  case kD => decide +kernel
  case c2 => exact rfl
  case c3 => exact rfl
  case c4 => exact rfl
  intro g' L' h' tk' cells' FG' F' N' Y' B' X' T' lt0
  k_cells Y'
  simp only [List.cons_append, List.nil_append] at N'
  dsimp only
  repeat (first | walk1 | (dsimp only; walk1))
  rename_i oR oN oW oT eR eN eW eT dT hT0 oTd loT hsT fsT hiT fiT ltT dW hW0 oWd loW hsW fsW hiW fiW ltW dN hN0 oNd loN hsN fsN hiN fiN ltN D9 h9 lt9 h8 F8 N8
  clear hsT fsT fiT hsW fsW fiW hsN fsN fiN
  replace eR : oR.data = Data.cell none := eR
  replace eN : oN.data = Data.cell none := eN
  replace eW : oW.data = Data.cell none := eW
  replace eT : oT.data = Data.cell none := eT
  have q1 : @LT.lt Nat _ (L' + 4) dT := ltT.1
  have q2 : @LT.lt Nat _ dT dW := ltW.1
  have q3 : @LT.lt Nat _ dW dN := ltN.1
  have lnw : ∀ p ∈ news, @LT.lt Nat _ p.1 L' := lt0
  have offc : ∀ (c : Nat) (x y z : Obj), @LT.lt Nat _ L' c → @LT.lt Nat _ c (L' + 5) → ∀ p ∈ (dT, x) :: (dW, y) :: (dN, z) :: news, p.1 ≠ c := fun c x y z c1 c2 p hp => by
    simp only [List.mem_cons] at hp
    rcases hp with rfl | rfl | rfl | hp
    · exact Nat.ne_of_gt (by omega)
    · exact Nat.ne_of_gt (by omega)
    · exact Nat.ne_of_gt (by omega)
    · have := lnw p hp; exact Nat.ne_of_lt (by omega)
  have k12 : @Ne Nat (L' + 1 + 1) (L' + 1) := by omega
  have k13 : @Ne Nat (L' + 1 + 1 + 1) (L' + 1) := by omega
  have k14 : @Ne Nat (L' + 1 + 1 + 1 + 1) (L' + 1) := by omega
  have k23 : @Ne Nat (L' + 1 + 1 + 1) (L' + 1 + 1) := by omega
  have k24 : @Ne Nat (L' + 1 + 1 + 1 + 1) (L' + 1 + 1) := by omega
  have k34 : @Ne Nat (L' + 1 + 1 + 1 + 1) (L' + 1 + 1 + 1) := by omega
  have N9 : News g' L' h8 ((L' + 1 + 1 + 1 + 1, oR) :: (L' + 1 + 1 + 1, oN) :: (L' + 1 + 1, oW) :: (L' + 1, oT) :: (dT, oTd) :: (dW, oWd) :: (dN, oNd) :: news) := fun p hp => N8 p (by
    simp only [List.mem_cons] at hp ⊢
    rcases hp with rfl | rfl | rfl | rfl | rfl | rfl | rfl | hp
    · exact .inr (.inr (.inr (.inr (.inl rfl))))
    · exact .inr (.inr (.inr (.inr (.inr (.inl rfl)))))
    · exact .inr (.inr (.inr (.inr (.inr (.inr (.inl rfl))))))
    · exact .inr (.inr (.inr (.inr (.inr (.inr (.inr (.inl rfl)))))))
    · exact .inr (.inr (.inr (.inl rfl)))
    · exact .inr (.inr (.inl rfl))
    · exact .inr (.inl rfl)
    · exact .inr (.inr (.inr (.inr (.inr (.inr (.inr (.inr hp))))))))
  clear N8
  refine storeX_C F8 N9 (by rfl) (.tail k14 (.tail k13 (.tail k12 (.head (offc _ _ _ _ (by omega) (by omega)))))) eT ?_
  clear F8 N9
  intro hA1 oT2 FA1 NA1 eT2
  iterate 2 (first | walk1 | (dsimp only; walk1))
  refine storeX_C FA1 NA1 (by rfl) (.tail k24 (.tail k23 (.head ?_))) eW ?_
  · intro p hp
    rcases List.mem_cons.mp hp with rfl | hp
    · exact Ne.symm k12
    · exact offc _ _ _ _ (by omega) (by omega) p hp
  clear FA1 NA1
  intro hA2 oW2 FA2 NA2 eW2
  iterate 2 (first | walk1 | (dsimp only; walk1))
  refine storeX_C FA2 NA2 (by rfl) (.tail k34 (.head ?_)) eN ?_
  · intro p hp
    rcases List.mem_cons.mp hp with rfl | hp
    · exact Ne.symm k23
    · rcases List.mem_cons.mp hp with rfl | hp
      · exact Ne.symm k13
      · exact offc _ _ _ _ (by omega) (by omega) p hp
  clear FA2 NA2
  intro hA3 oN2 FA3 NA3 eN2
  iterate 4 (first | walk1 | (dsimp only; walk1))
  iterate 15 (first | walk1 | (dsimp only; walk1))
  rename Fr _ _ _ _ => FB0
  rename News _ _ _ _ => NB0
  rename IsRange _ _ _ _ _ _ _ _ => hRg
  refine krs_iter (n := 4) rfl hRg (by decide) (by decide) FB0 NB0 ?_
  intro I lI
  refine krs_inv (DueJ PySem.Challenge.rw_pe0139_01.row.prog w TT W NN r (L' + 1 + 1 + 1 + 1) (L' + 1 + 1 + 1) (L' + 1 + 1) (L' + 1) dT dW dN oN2 oW2 oT2 news) ?turn ?done 4 0 _ _ rfl ⟨oR, oTd, oWd, oNd, [], [], [], rfl, ⟨_, eR⟩, hiT, hiW, hiN, ⟨by simp, fun z _ => rfl, fun z _ _ => by omega⟩, ⟨by simp, fun z _ => rfl, fun z _ _ => by omega⟩, ⟨by simp, fun z _ => rfl, fun z _ _ => by omega⟩, rfl⟩
  case turn =>
    rintro i m₁ nw tK hh tkk hi4 ⟨oR1, oT1, oW1, oN1, kT, kW, kN, rfl, ⟨cv, eR1⟩, dT1, dW1, dN1, tbT, tbW, tbN, mrl⟩ F1 N1
    rw [← due1_eq mrl] at F1
    obtain ⟨kk, hkk⟩ : ∃ kk : Int, (3 : Int) + (i : Int) * -1 = kk := ⟨_, rfl⟩
    rw [hkk] at F1
    have hk0 : 0 ≤ kk ∧ kk ≤ 3 := by omega
    generalize krsIt _ _ _ = it at N1 ⊢
    replace F1 : Fr g' L' hh _ := F1
    replace N1 : News g' L' hh ((I, it) :: (L' + 1 + 1 + 1 + 1, oR1) :: (L' + 1 + 1 + 1, oN2) :: (L' + 1 + 1, oW2) :: (L' + 1, oT2) :: (dT, oT1) :: (dW, oW1) :: (dN, oN1) :: news) := N1
    have hrow : ∃ lk yk, ([.ref l0, .ref l1, .ref l2, .ref l3] : List Value)[kk.toNat]? = some (.ref lk) ∧ (lk, LCg.lst yk) ∈ news ∧ IntsAre yk (R (256 + kk)) := by
      have hc : kk = 0 ∨ kk = 1 ∨ kk = 2 ∨ kk = 3 := by omega
      rcases hc with e | e | e | e
      · exact ⟨l0, y0, by rw [e]; rfl, h0, by rw [e]; exact i0⟩
      · exact ⟨l1, y1, by rw [e]; rfl, h1, by rw [e]; exact i1⟩
      · exact ⟨l2, y2, by rw [e]; rfl, h2, by rw [e]; exact i2⟩
      · exact ⟨l3, y3, by rw [e]; rfl, h3, by rw [e]; exact i3⟩
    obtain ⟨lk, yk, hlk, hmk, hik⟩ := hrow
    have hrw := G.row (256 + kk) (by omega) (by omega)
    have hyl : yk.length ≤ 3 := by rw [hik.length]; exact hrw.2.1
    have up8 : ∀ (a b c d e f g i : Addr × Obj) (p : Addr × Obj), p ∈ news → p ∈ a :: b :: c :: d :: e :: f :: g :: i :: news := fun _ _ _ _ _ _ _ _ p hp => by
      simp only [List.mem_cons]
      exact .inr (.inr (.inr (.inr (.inr (.inr (.inr (.inr hp)))))))
    have LI : @LT.lt Nat _ (L' + 1 + 1 + 1 + 1) I ∧ @LT.lt Nat _ dT I ∧ @LT.lt Nat _ dW I ∧ @LT.lt Nat _ dN I ∧ ∀ p ∈ news, @LT.lt Nat _ p.1 I := by
      refine ⟨lI (L' + 1 + 1 + 1 + 1, oR) (by simp), lI (dT, oTd) (by simp), lI (dW, oWd) (by simp), lI (dN, oNd) (by simp), fun p hp => lI p (by simp [hp])⟩
    iterate 5 (first | walk1 | (dsimp only; walk1))
    refine item_litK (News.isList N1 (up8 _ _ _ _ _ _ _ _ _ hr)) (by omega) (by omega) hlk ?_
    refine storeX_C F1 N1 (by rfl) (.tail (Nat.ne_of_gt LI.1) (.head fun p hp => ?_)) eR1 ?_
    · simp only [List.mem_cons] at hp
      rcases hp with rfl | rfl | rfl | hp
      · exact Ne.symm k34
      · exact Ne.symm k24
      · exact Ne.symm k14
      · exact offc _ _ _ _ (by omega) (by omega) p (by simpa only [List.mem_cons] using hp)
    clear F1 N1
    intro hB oR3 FB NB eR3
    replace NB : News g' L' hB ((I, it) :: (L' + 1 + 1 + 1 + 1, oR3) :: (L' + 1 + 1 + 1, oN2) :: (L' + 1 + 1, oW2) :: (L' + 1, oT2) :: (dT, oT1) :: (dW, oW1) :: (dN, oN1) :: news) := NB
    iterate 9 (first | walk1 | (dsimp only; walk1))
    have hrl : yk.toArray.size = (R (256 + kk)).length := by rw [List.size_toArray, hik.length]
    have hone : ∀ (i : Nat) (v : Value), i < yk.toArray.size → yk.toArray[i]? = some v → ∃ o t, v = .int o t ∧ (R (256 + kk))[i]? = some o ∧ ((7 ≤ o ∧ o ≤ 14) ∨ (256 + kk < o ∧ o ≤ 259)) := fun i v hi hv => by
      have hi' : i < (R (256 + kk)).length := by rw [← hrl]; exact hi
      obtain ⟨t, ht⟩ := hik.get i _ (List.getElem?_eq_getElem hi')
      have e : some (Value.int (R (256 + kk))[i] t) = some v := by rw [← ht]; simpa using hv
      exact ⟨_, t, (Option.some.inj e).symm, List.getElem?_eq_getElem hi', hrw.2.2 _ (List.getElem_mem hi')⟩
    refine LCg.CompSrc.ledger rfl FB NB (up8 _ _ _ _ _ _ _ _ _ hmk) (by rw [List.size_toArray, sizeLine_eq]; omega) fun gg => ?_
    refine comp_rel (n := yk.toArray.size) (fun i ys => ∃ tv : List (Str × Tok), ys = strValues tv ∧ tv.map (fun p => p.1.cps.toList) = ((R (256 + kk)).take i).map TT) (.inr ⟨_, up8 _ _ _ _ _ _ _ _ _ hmk, rfl, _, rfl⟩) ?el1 ?fin1 _ 0 [] (by omega) ⟨[], rfl, rfl⟩
    case el1 =>
      intro i v I1 oI1 C1 oC1 D1 m₂ hC tkC E' ys hi hJ hP hC1 hx FC NC
      obtain ⟨o, t, rfl, hro, hro2⟩ := hone i v hi hP
      replace hx : m₂ (Str.ofString "one") = some (.int o t) := hx
      have htk : (R (256 + kk)).take (i + 1) = (R (256 + kk)).take i ++ [o] := by rw [List.take_add_one, hro]; rfl
      obtain ⟨tv, rfl, htv⟩ := hJ
      have goal1 : ∀ (x : Str) (tx : Tok), x.cps.toList = TT o → ∃ tv' : List (Str × Tok), strValues tv ++ [Value.str x tx] = strValues tv' ∧ tv'.map (fun p => p.1.cps.toList) = ((R (256 + kk)).take (i + 1)).map TT := fun x tx hx =>
        ⟨tv ++ [(x, tx)], by simp [strValues], by rw [htk, List.map_append, List.map_append, htv, List.map_singleton, List.map_singleton, hx]⟩
      rcases hro2 with hro2 | hro2
      · iterate 14 (first | walk1 | (dsimp only; walk1))
        exact ValOut.of (goal1 _ _ (by rw [seven_cps hro2.1 hro2.2, G.tT o hro2.1 hro2.2]))
      · iterate 10 (first | walk1 | (dsimp only; walk1))
        obtain ⟨x, tx, hva, hxc⟩ := tbT.got o (by omega) hro2.2
        refine kda_item NC (d := dT) (o := oT1) (by simp) dT1 (intKind_is _ _ _ _) hva ?_
        exact ValOut.of (goal1 _ _ hxc)
    case fin1 =>
      rintro ys ⟨tv, rfl, htv⟩ D1 hD tkD FD ND offD
      rw [hrl, List.take_length] at htv
      dsimp only at FD ND ⊢
      have hcod := tv_codes htv
      have hlen : ((tv.map (·.1)).map (·.length)).sum ≤ 121 := by
        rw [texts_len, hcod, ← G.nT (256 + kk) (by omega) (by omega)]; exact G.len121 (by omega) (by omega)
      iterate 1 (first | walk1 | (dsimp only; walk1))
      refine SC.join (l := tv) (texts := tv.map (·.1)) (News.isList ND (List.mem_cons_self ..)) rfl (joinOk_of (by omega)) ?_
      intro tj kj
      iterate 5 (first | walk1 | (dsimp only; walk1))
      replace ND : News g' L' hD ((I, it) :: (L' + 1 + 1 + 1 + 1, oR3) :: (L' + 1 + 1 + 1, oN2) :: (L' + 1 + 1, oW2) :: (L' + 1, oT2) :: (dT, oT1) :: (dW, oW1) :: (dN, oN1) :: news) := fun p hp => ND p (List.mem_cons_of_mem _ hp)
      refine kda_set FD ND (.tail (Nat.ne_of_gt LI.2.1) (.tail (Nat.ne_of_lt (by omega)) (.tail (Nat.ne_of_lt (by omega)) (.tail (Nat.ne_of_lt (by omega)) (.tail (Nat.ne_of_lt (by omega)) (.head fun p hp => ?_)))))) dT1 (intKind_is _ _ _ _) (by rw [sizeLine_eq]; have := tbT.len; omega) ?_
      · simp only [List.mem_cons] at hp
        rcases hp with rfl | rfl | hp
        · exact Nat.ne_of_gt q2
        · exact Nat.ne_of_gt (Nat.lt_trans q2 q3)
        · have := lnw p hp; exact Nat.ne_of_lt (by omega)
      intro hE oT3 FE NE dT3
      replace NE : News g' L' hE ((I, it) :: (L' + 1 + 1 + 1 + 1, oR3) :: (L' + 1 + 1 + 1, oN2) :: (L' + 1 + 1, oW2) :: (L' + 1, oT2) :: (dT, oT3) :: (dW, oW1) :: (dN, oN1) :: news) := NE
      replace tbT := tbT.more (t := tj) (k := 256 + kk) (x := Txt.join (Str.ofString "") (tv.map (·.1))) (by omega) (by rw [join_codes, hcod, ← G.nT (256 + kk) (by omega) (by omega)])
      clear FD ND dT1 FB NB
      iterate 17 (first | walk1 | (dsimp only; walk1))
      refine len_list (News.isList NE (up8 _ _ _ _ _ _ _ _ _ hmk)) (by rw [List.size_toArray]; omega) ?_
      iterate 2 (first | walk1 | (dsimp only; walk1))
      rename Fr _ _ _ _ => FE1
      rename News _ _ _ _ => NE1
      rename IsRange _ _ _ _ _ _ _ _ => hRg2
      have hR3 : (R (256 + kk)).length = 1 ∨ (R (256 + kk)).length = 2 ∨ (R (256 + kk)).length = 3 := by have := hrw.1; have := hrw.2.1; omega
      refine LCg.CompSrc.range (n := (R (256 + kk)).length) rfl FE1 NE1 hRg2 (by rcases hR3 with e | e | e <;> rw [e] <;> decide) (by rcases hR3 with e | e | e <;> rw [e] <;> decide) (by rw [sizeLine_eq]; omega) fun gg2 => ?_
      refine comp_rel (n := (R (256 + kk)).length) (fun i ys => IntsAre ys ((ml W (R (256 + kk))).take i)) trivial ?el2 ?fin2 _ 0 [] (by omega) .nil
      case el2 =>
        intro j v I1 oI1 C1 oC1 D1 m₂ hC tkC E' ys hj hJ hP hC1 hx FC NC
        obtain ⟨tz, rfl⟩ := hP
        rw [Int.zero_add] at hx
        replace hx : m₂ (Str.ofString "j") = some (.int (j : Int) tz) := hx
        have up11 : ∀ (a b c d e f g i a1 a2 a3 : Addr × Obj) (p : Addr × Obj), p ∈ news → p ∈ a1 :: a2 :: a3 :: a :: b :: c :: d :: e :: f :: g :: i :: news := fun _ _ _ _ _ _ _ _ _ _ _ p hp => List.mem_cons_of_mem _ (List.mem_cons_of_mem _ (List.mem_cons_of_mem _ (up8 _ _ _ _ _ _ _ _ p hp)))
        iterate 10 (first | walk1 | (dsimp only; walk1))
        refine len_list (News.isList NC (up11 _ _ _ _ _ _ _ _ _ _ _ _ hmk)) (by rw [List.size_toArray]; omega) ?_
        have hj2 : j < yk.toArray.size := by rw [hrl]; exact hj
        obtain ⟨o, t, hyo, hro, hro2⟩ := hone j _ hj2 (Array.getElem?_eq_getElem hj2)
        have hyj : yk[((j : Nat) : Int).toNat]? = some (.int o t) := by
          rw [Int.toNat_natCast, ← hyo, List.getElem_toArray]
          exact List.getElem?_eq_getElem _
        have hval : ∀ td : Tok, ∃ tt, (valueAt kW o).getD (.int 1 td) = .int (W o) tt := fun td => by
          rcases hro2 with z | z
          · rw [tbW.no o (by omega), G.tW o z.1 z.2]; exact ⟨td, rfl⟩
          · obtain ⟨tt, e⟩ := tbW.got o (by omega) z.2
            rw [e]; exact ⟨tt, rfl⟩
        have hml : (ml W (R (256 + kk))).take (j + 1) = (ml W (R (256 + kk))).take j ++ [((yk.toArray.size : Nat) : Int) - 1 - (j : Int) + W o] := by
          rw [List.take_add_one, ml_get, hro, hrl]; rfl
        iterate 12 (first | walk1 | (dsimp only; walk1))
        refine item_litK (News.isList NC (up11 _ _ _ _ _ _ _ _ _ _ _ _ hmk)) (by omega) (by omega) hyj ?_
        iterate 3 (first | walk1 | (dsimp only; walk1))
        refine kdg_get2 NC (d := dW) (o := oW1) (by simp) dW1 loW (intKind_is _ _ _ _) _ rfl ?_
        obtain ⟨tt, ett⟩ := hval _
        rw [ett]
        iterate 1 (first | walk1 | (dsimp only; walk1))
        refine ValOut.of ?_
        rw [hml]
        exact IntsAre.append hJ (.cons _ _ .nil)
      case fin2 =>
        intro ys hys D2 hF tkF FF NF offF
        rw [← ml_len (W := W), List.take_length] at hys
        dsimp only at FF NF ⊢
        have hne : R (256 + kk) ≠ [] := by intro e; have := hrw.1; rw [e] at this; simp at this
        have hW1 : ∀ o ∈ R (256 + kk), 1 ≤ W o := fun o ho => G.W1 (G.sym (by omega) (by omega) ho)
        iterate 1 (first | walk1 | (dsimp only; walk1))
        refine max_list_N rfl FF NF (News.isList NF (List.mem_cons_self ..)) hys (by rw [ml_len]; omega) ?_
        intro hG M tM tkG FG NG hM1 hM2
        have hM := ml_max hne hW1 hM1 hM2
        rw [← G.nW (256 + kk) (by omega) (by omega)] at hM
        clear FF NF
        iterate 5 (first | walk1 | (dsimp only; walk1))
        replace NG : News g' L' hG ((I, it) :: (L' + 1 + 1 + 1 + 1, oR3) :: (L' + 1 + 1 + 1, oN2) :: (L' + 1 + 1, oW2) :: (L' + 1, oT2) :: (dT, oT3) :: (dW, oW1) :: (dN, oN1) :: news) := fun p hp => NG p (List.mem_cons_of_mem _ hp)
        refine kda_set FG NG (.tail (Nat.ne_of_gt LI.2.2.1) (.tail (Nat.ne_of_lt (by omega)) (.tail (Nat.ne_of_lt (by omega)) (.tail (Nat.ne_of_lt (by omega)) (.tail (Nat.ne_of_lt (by omega)) (.tail (Nat.ne_of_lt q2) (.head fun p hp => ?_))))))) dW1 (intKind_is _ _ _ _) (by rw [sizeLine_eq]; have := tbW.len; omega) ?_
        · simp only [List.mem_cons] at hp
          rcases hp with rfl | hp
          · exact Nat.ne_of_gt q3
          · have := lnw p hp; exact Nat.ne_of_lt (by omega)
        intro hH oW3 FH NH dW3
        replace NH : News g' L' hH ((I, it) :: (L' + 1 + 1 + 1 + 1, oR3) :: (L' + 1 + 1 + 1, oN2) :: (L' + 1 + 1, oW2) :: (L' + 1, oT2) :: (dT, oT3) :: (dW, oW3) :: (dN, oN1) :: news) := NH
        replace tbW := tbW.more (t := tM) (k := 256 + kk) (z := M) (by omega) hM
        clear FG NG dW1 FE1 NE1
        iterate 10 (first | walk1 | (dsimp only; walk1))
        refine LCg.CompSrc.ledger rfl FH NH (up8 _ _ _ _ _ _ _ _ _ hmk) (by rw [List.size_toArray, sizeLine_eq]; omega) fun gg3 => ?_
        refine comp_rel (n := yk.toArray.size) (fun i ys => IntsAre ys (((R (256 + kk)).take i).map NN)) (.inr ⟨_, up8 _ _ _ _ _ _ _ _ _ hmk, rfl, _, rfl⟩) ?el3 ?fin3 _ 0 [] (by omega) .nil
        case el3 =>
          intro i v I1 oI1 C1 oC1 D1 m₂ hC tkC E' ys hi hJ hP hC1 hx FC NC
          obtain ⟨o, t, rfl, hro, hro2⟩ := hone i v hi hP
          replace hx : m₂ (Str.ofString "one") = some (.int o t) := hx
          have htk : (R (256 + kk)).take (i + 1) = (R (256 + kk)).take i ++ [o] := by rw [List.take_add_one, hro]; rfl
          have hval : ∀ td : Tok, ∃ tt, (valueAt kN o).getD (.int 1 td) = .int (NN o) tt := fun td => by
            rcases hro2 with z | z
            · rw [tbN.no o (by omega), G.tN o z.1 z.2]; exact ⟨td, rfl⟩
            · obtain ⟨tt, e⟩ := tbN.got o (by omega) z.2
              rw [e]; exact ⟨tt, rfl⟩
          iterate 10 (first | walk1 | (dsimp only; walk1))
          refine kdg_get2 NC (d := dN) (o := oN1) (by simp) dN1 loN (intKind_is _ _ _ _) _ rfl ?_
          obtain ⟨tt, ett⟩ := hval _
          rw [ett]
          refine ValOut.of ?_
          rw [htk, List.map_append, List.map_singleton]
          exact IntsAre.append hJ (.cons _ _ .nil)
        case fin3 =>
          intro ys hys D3 hJ tkJ FJ NJ offJ
          rw [hrl, List.take_length] at hys
          dsimp only at FJ NJ ⊢
          iterate 1 (first | walk1 | (dsimp only; walk1))
          refine LSm.sum_ints FJ NJ rfl (News.isList NJ (List.mem_cons_self ..)) hys ?_
          intro hK tkK tK3 FK NK
          clear FJ NJ
          iterate 6 (first | walk1 | (dsimp only; walk1))
          replace NK : News g' L' hK ((I, it) :: (L' + 1 + 1 + 1 + 1, oR3) :: (L' + 1 + 1 + 1, oN2) :: (L' + 1 + 1, oW2) :: (L' + 1, oT2) :: (dT, oT3) :: (dW, oW3) :: (dN, oN1) :: news) := fun p hp => NK p (List.mem_cons_of_mem _ hp)
          refine kda_set FK NK (.tail (Nat.ne_of_gt LI.2.2.2.1) (.tail (Nat.ne_of_lt (by omega)) (.tail (Nat.ne_of_lt (by omega)) (.tail (Nat.ne_of_lt (by omega)) (.tail (Nat.ne_of_lt (by omega)) (.tail (Nat.ne_of_lt (Nat.lt_trans q2 q3)) (.tail (Nat.ne_of_lt q3) (.head fun p hp => ?_)))))))) dN1 (intKind_is _ _ _ _) (by rw [sizeLine_eq]; have := tbN.len; omega) ?_
          · have := lnw p hp; exact Nat.ne_of_lt (by omega)
          intro hM oN3 FM NM dN3
          replace NM : News g' L' hM ((I, it) :: (L' + 1 + 1 + 1 + 1, oR3) :: (L' + 1 + 1 + 1, oN2) :: (L' + 1 + 1, oW2) :: (L' + 1, oT2) :: (dT, oT3) :: (dW, oW3) :: (dN, oN3) :: news) := NM
          refine wpAny_execs_nil ?_
          refine UnrEnd.intro FM NM _ (fun p hp => hp) (fun p hp => ?_) ⟨oR3, oT3, oW3, oN3, _, _, _, rfl, ⟨_, eR3⟩, dT3, dW3, dN3, tbT, tbW, tbN.more (by omega) (by rw [← G.nN (256 + kk) (by omega) (by omega)]), rfl⟩
          have l1 := LI.1
          simp only [List.mem_cons] at hp
          rcases hp with rfl | rfl | rfl | rfl | rfl | rfl | rfl | hp
          · exact Nat.ne_of_lt (by omega)
          · exact Nat.ne_of_lt (by omega)
          · exact Nat.ne_of_lt (by omega)
          · exact Nat.ne_of_lt (by omega)
          · exact Nat.ne_of_lt LI.2.1
          · exact Nat.ne_of_lt LI.2.2.1
          · exact Nat.ne_of_lt LI.2.2.2.1
          · exact Nat.ne_of_lt (LI.2.2.2.2 p hp)
  case done =>
    rintro m₁ nw hh tkk ⟨oR1, oT1, oW1, oN1, kT, kW, kN, rfl, ⟨cv, eR1⟩, dT1, dW1, dN1, tbT, tbW, tbN, mrl⟩ F1 N1
    obtain ⟨xT, tT, vT, cT⟩ := tbT.got 256 (by decide) (by decide)
    obtain ⟨tW, vW⟩ := tbW.got 256 (by decide) (by decide)
    obtain ⟨tN, vN⟩ := tbN.got 256 (by decide) (by decide)
    replace F1 : Fr g' L' hh m₁ := F1
    replace N1 : News g' L' hh ((L' + 1 + 1 + 1 + 1, oR1) :: (L' + 1 + 1 + 1, oN2) :: (L' + 1 + 1, oW2) :: (L' + 1, oT2) :: (dT, oT1) :: (dW, oW1) :: (dN, oN1) :: news) := N1
    iterate 7 (first | walk1 | (dsimp only; walk1))
    refine kda_item N1 (d := dT) (o := oT1) (by simp) dT1 (intKind_is _ _ _ _) vT ?_
    iterate 6 (first | walk1 | (dsimp only; walk1))
    refine kda_item N1 (d := dW) (o := oW1) (by simp) dW1 (intKind_is _ _ _ _) vW ?_
    iterate 6 (first | walk1 | (dsimp only; walk1))
    refine kda_item N1 (d := dN) (o := oN1) (by simp) dN1 (intKind_is _ _ _ _) vN ?_
    iterate 15 (first | walk1 | (dsimp only; walk1))
    rename Fr _ _ _ _ => FZ
    rename News _ _ _ _ => NZ
    refine h _ _ _ _ _ _ _ _ _ _ _ _ cT FZ (news_pair NZ fun p hp => ?_)
    simp only [List.mem_cons]
    exact .inr (.inr (.inr (.inr (.inr (.inr (.inr hp))))))
end
end Mine
end
section
namespace Mine
theorem top_off_W5 : True := by
  w_top off
  trivial
end Mine
open PySem PySem.W PyProof.Rows PySem.Calls
set_option maxRecDepth 100000
set_option maxHeartbeats 8000000
namespace Mine
theorem law_holds : PySem.Challenge.rw_pe0139_01.Holds := by
  refine Mine.hd ?_
  k_go0
  all_goals try k_fold
  iterate 42 (first | walk1 | (dsimp only; walk1))
  rename_i D1 ws1 h1 hI1 hC1 hL1 l1 la h2 l2 D2 ws2 h3 F3 N3 hI2 hC2 hL2 l3
  refine kmk_slice_ints (ns := [290, 25, 122, 25]) F3 N3 (News.isList N3 (.tail _ (.head _))) (IsPart.int _ _) IsPart.none (.cons _ _ (.cons _ _ (.cons _ _ (.cons _ _ .nil)))) (kmk_from (.cons _ _ (.cons _ _ (.cons _ _ (.cons _ _ .nil)))) (by omega)) rfl ?_ (by with_unfolding_all rfl) (fun _ => by with_unfolding_all rfl) (by rw [sizeLine_eq]; simp)
  intro D4 ws4 h4 F4 N4 l4 hI4 hC4 hL4
  clear F3 N3
  k_lt l4
  iterate 3 (first | walk1 | (dsimp only; walk1))
  rename_i D5 ws5 h5 hI5 l5 h6 oC F6 N6 dC
  rename Shared => s1
  rename Below _ _ _ _ => B
  rename Top _ _ _ _ _ _ => T
  rename Frag.In _ _ => X
  refine wpAny_execs_cons (LCg.Assign_ListComp_U (F₀ := F6) rfl (by with_unfolding_all rfl) (by rfl) (by decide) (by rfl) (by decide) (by rfl) (by rfl) (by rfl) ?_)
  iterate 7 (first | walk1 | (dsimp only; walk1))
  rename IsRange _ _ _ _ _ _ _ _ => hRg
  rename Fr _ _ _ _ => F7
  rename News _ _ _ _ => N7
  have hl5 : ws5.length = 4 := by
    rw [hI5.length, List.length_append, List.length_drop, hC1]
    simp only [List.length_cons, List.length_nil, Int.toNat_natCast]
    omega
  have hat5 : ∀ i : Nat, i < 4 → ∃ x t, ws5[i]? = some (.int x t) := fun i hi => by
    have hi' := hi
    rw [← hl5, hI5.length] at hi'
    obtain ⟨t, ht⟩ := hI5.get i _ (List.getElem?_eq_getElem hi')
    exact ⟨_, t, ht⟩
  have N8 : News s1.heap s1.heap.objs.size _ [(s1.heap.objs.size + 1, oC), (D5, PySem.W.listOf ws5.toArray 0)] := fun p hp => N7 p (by
    simp only [List.mem_cons, List.not_mem_nil, or_false] at hp
    rcases hp with rfl | rfl <;> simp)
  clear N7
  refine LCg.CompSrc.range (n := 4) rfl F7 N8 hRg (by decide) (by decide) (by rw [sizeLine_eq]; omega) fun gg => ?_
  refine comp_grow (n := 4) (RulesJ (s1.heap.objs.size + 1) oC D5 (PySem.W.listOf ws5.toArray 0)) ?el ?fin 4 0 [] _ rfl (RulesJ.start (by simp) (by simp))
  case el =>
    intro i v I1 oI1 C1 oC1 D0 m₂ hC tkC E' ys nw hi hJ hP hC1 hx FC NC off
    obtain ⟨tz, rfl⟩ := hP
    rw [Int.zero_add] at hx
    replace hx : m₂ (Str.ofString "k") = some (.int (i : Int) tz) := hx
    obtain ⟨_, _, _, _, hm1, hm2⟩ := hJ.ex
    obtain ⟨x, tx, h5x⟩ := hat5 i hi
    have NC2 : News s1.heap s1.heap.objs.size hC ((I1, oI1) :: (C1, oC1) :: (D0, LCg.lst ys) :: (s1.heap.objs.size + 1, oC) :: (D5, PySem.W.listOf ws5.toArray 0) :: nw) := fun p hp => NC p (by
      simp only [List.mem_cons] at hp ⊢
      rcases hp with rfl | rfl | rfl | rfl | rfl | hp
      · exact .inl rfl
      · exact .inr (.inl rfl)
      · exact .inr (.inr (.inl rfl))
      · exact .inr (.inr (.inr hm1))
      · exact .inr (.inr (.inr hm2))
      · exact .inr (.inr (.inr hp)))
    clear NC
    iterate 10 (first | walk1 | (dsimp only; walk1))
    refine item_litK (News.isList NC2 (List.mem_cons_of_mem _ (List.mem_cons_of_mem _ (List.mem_cons_of_mem _ (List.mem_cons_of_mem _ (List.mem_cons_self ..)))))) (by omega) (by omega) (by rw [Int.toNat_natCast]; exact h5x) ?_
    iterate 1 (first | walk1 | (dsimp only; walk1))
    rename Fr _ _ _ _ => FC
    refine ⟨X.keeps FC.keep, rule_call B FC X NC2 T rfl rfl (by omega) (by omega) ?_⟩
    intro l h' tk' yk row hIr hrok hfresh Fk Nk
    refine LCg.CompEnd.intro Fk Nk ((l, LCg.lst yk) :: nw) (fun p hp => ?_) ⟨⟨fun e => hfresh (I1, oI1) (by simp) e.symm, fun e => hfresh (C1, oC1) (by simp) e.symm, fun e => hfresh (D0, LCg.lst ys) (by simp) e.symm⟩, off⟩ trivial (hJ.more hIr hrok)
    simp only [List.mem_cons] at hp ⊢
    rcases hp with rfl | rfl | rfl | rfl | hp
    · exact .inr (.inl rfl)
    · exact .inr (.inr (.inl rfl))
    · exact .inr (.inr (.inr (.inl rfl)))
    · exact .inl rfl
    · exact .inr (.inr (.inr (.inr (.inr (.inr hp)))))
  case fin =>
    intro ys nw hJ
    obtain ⟨l0, l1, l2, l3, y0, y1, y2, y3, R, rfl, m0, m1, m2, m3, i0, i1, i2, i3, hR⟩ := hJ.four
    obtain ⟨TT, W, NN, G⟩ := exists_gram hR
    intro D9 h9 tk9 F9 N9 off9
    dsimp only at F9 N9 ⊢
    iterate 9 (first | walk1 | (dsimp only; walk1))
    refine ⟨X.keeps F9.keep, told_call B F9 X N9 T rfl rfl G (List.mem_cons_self ..) (List.mem_cons_of_mem _ m0) (List.mem_cons_of_mem _ m1) (List.mem_cons_of_mem _ m2) (List.mem_cons_of_mem _ m3) i0 i1 i2 i3 ?_⟩
    intro la qa hA tkA xa ta1 ta2 ta3 ta4 ua1 ua2 epa hxa FA NA
    clear F9 N9
    iterate 6 (first | walk1 | (dsimp only; walk1))
    refine ⟨X.keeps FA.keep, due_call B FA X NA T rfl rfl G (List.mem_cons_of_mem _ (List.mem_cons_of_mem _ (List.mem_cons_self ..))) (List.mem_cons_of_mem _ (List.mem_cons_of_mem _ (List.mem_cons_of_mem _ m0))) (List.mem_cons_of_mem _ (List.mem_cons_of_mem _ (List.mem_cons_of_mem _ m1))) (List.mem_cons_of_mem _ (List.mem_cons_of_mem _ (List.mem_cons_of_mem _ m2))) (List.mem_cons_of_mem _ (List.mem_cons_of_mem _ (List.mem_cons_of_mem _ m3))) i0 i1 i2 i3 ?_⟩
    intro lb qb hB tkB xb tb1 tb2 tb3 tb4 ub1 ub2 epb hxb FB NB
    clear FA NA
    have exy : xa = xb := by
      cases xa with | mk ca =>
      cases xb with | mk cb =>
      exact congrArg Str.mk (Array.ext' (hxa.trans hxb.symm))
    subst exy
    refine eq_five NB (List.mem_cons_of_mem _ (List.mem_cons_of_mem _ (List.mem_cons_self ..))) (List.mem_cons_of_mem _ (List.mem_cons_of_mem _ (List.mem_cons_of_mem _ (List.mem_cons_self ..)))) (List.mem_cons_self ..) (List.mem_cons_of_mem _ (List.mem_cons_self ..)) (G.text_ok hxa) (by ke_room) ?_
    dsimp only
    repeat (first | (k_end; kc_close) | walk1 | (dsimp only; walk1) | (leave1; walk_say "STEP leave1"; (try dsimp only)))
end Mine
end
theorem PySem.Challenge.cw_pe0139_01_holds : PySem.Challenge.rw_pe0139_01.Holds := by
  exact Mine.law_holds
