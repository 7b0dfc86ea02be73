/-
  Simulation of operations, last part: put together. No law is claimed here.
-/
import Derived.Test.YtejpjabbdkpmiaaDoorAm21
set_option linter.unusedSimpArgs false
set_option linter.unusedVariables false
namespace Go.Am
open Go

section
variable {C : Ctx} {γ0 γ γ' : Gh} {w0 w w' : World} {β : Nat → Nat} {σ σ' : Env} {h h' : AHeap} {a : Act} {fid : FuncId} {ops : List Oper}

theorem Sim.wp {o : Oper} {K : Act → World → Prop} {Q : Exit → Act → World → Prop} (hs : Sim C γ0 w0 o a w σ' h') (hK : ∀ γ' β' a' w', Rel C γ0 w0 γ' β' σ' h' a' w' → K a' w') : o.wp C.P a w K Q := by
  obtain ⟨γ', β', w', ⟨v, he, hr⟩ | ⟨he, hr⟩⟩ := hs
  · exact wp_value he (hK _ _ _ _ hr)
  · exact wp_skipped he (hK _ _ _ _ hr)

theorem binKind_still {P : Program} {op : BinOp} {t : TypeId} {p : POp} (hp : binKind P op t = some p) : p.still = true := by
  have heq : ∀ neg u, eqKind P t neg u = some p → p.still = true := by
    intro neg u h
    unfold eqKind at h
    split at h
    · cases h; rfl
    · split at h
      · cases hf : flatK P 20 t with
        | none => rw [hf] at h; cases h
        | some k => rw [hf] at h; cases h; rfl
      · cases h
    · split at h <;> cases h
      rfl
    · cases h; rfl
    · cases h; rfl
    · cases h; rfl
    · cases h
  unfold binKind at hp
  split at hp
  · cases hp; rfl
  · cases hp; rfl
  · split at hp
    · exact heq _ _ hp
    · exact heq _ _ hp
    · cases hp
  · cases hp

theorem run_fieldAt_addr {P : Program} {t : TypeId} {f off : Nat} {sh : Option Nat} (hf : fieldOff P t f = some (off, sh)) (b o : Nat) : (Instr.fieldAt t (.pointer (some ⟨b, o, none⟩)) f).run P w = .ok (.pointer (some ⟨b, o + off, none⟩)) w := by
  unfold fieldOff at hf
  split at hf
  · rename_i fs hu'
    split at hf
    · rename_i fd hfd
      split at hf
      · rename_i n sh' h1 h2
        cases hf
        simp [Instr.fieldAt, run_underlying hu', hfd, Instr.sureAddr, fieldPlace, run_sizeOf h1, Addr.add_lit]
      · cases hf
    · cases hf
  · cases hf

/-- A slot that is an address in a private variable, or such a variable. -/
theorem opSlot_box (hr : Rel C γ0 w0 γ β σ h a w) {s ver : Nat} {cs : List AVal} {ow : List Nat} (hs : opSlot C σ (.tmp s) = some (.box ver cs ow)) : a.eval (.tmp s) = .pointer (some ⟨β s, 0, none⟩) := by
  have h0 := slot_rel hr s
  rw [opSlot_tmp hs] at h0
  exact h0.1

theorem opSlot_lref (hr : Rel C γ0 w0 γ β σ h a w) {x : Operand} {s k : Nat} (hs : opSlot C σ x = some (.lref s k)) : a.eval x = .pointer (some ⟨β s, k, none⟩) := by
  obtain ⟨t, h1, _⟩ := opSlot_any hr hs
  exact h1

theorem sim_boxOp {o : Oper} {t : TypeId} {v : AVal} {d : Nat} {r : OpR} {run : IT → AHeap → Option Res} (hb : boxOp C fid t v d = some r) (hdo : r.does C run (σ.drop r.news) h σ' h')
    (priv : ∀ n, C.kind fid d = .priv → v.cells.length = n → n ≠ 0 → Sim C γ0 w0 o a w ((σ.drop [d]).set d (.box 0 v.cells [])) h)
    (heap : v.cells.length ≠ 0 → Sim C γ0 w0 o a w (σ.put (some d) (.val (.ptr (some (h.length, 0))))) (h ++ [.cells v.cells])) : Sim C γ0 w0 o a w σ' h' := by
  unfold boxOp at hb
  split at hb
  · cases hb
  · rename_i n hn
    split at hb
    · cases hb
    · rename_i hn0
      split at hb
      · cases hb
        obtain ⟨h1, rfl, rfl⟩ := hdo
        rename_i hk
        exact priv n hk h1 hn0
      · cases hb
        obtain ⟨h1, rfl, rfl⟩ := hdo
        exact heap (by omega)

theorem pure_lref {d s k : Nat} {run : IT → AHeap → Option Res} (hdo : (OpR.pure [(d, .lref s k)]).does C run (σ.drop (OpR.pure [(d, .lref s k)]).news) h σ' h') : σ' = σ.set d (.lref s k) ∧ h' = h := by
  obtain ⟨rfl, rfl⟩ := hdo
  exact ⟨rfl, rfl⟩

/-- What an operation of the code does, the machine's frame and heap follow. -/
theorem sim_op {run : IT → AHeap → Option Res} (hS : SimCalls C run) {o : Oper} {r : OpR} {K : Act → World → Prop} {Q : Exit → Act → World → Prop} (hc : classify C fid ops σ o = some r) (hdo : r.does C run (σ.drop r.news) h σ' h') (hr : Rel C γ0 w0 γ β σ h a w)
    (hK : ∀ γ' β' a' w', Rel C γ0 w0 γ' β' σ' h' a' w' → K a' w') : o.wp C.P a w K Q := by
  by_cases hst : ∃ p args dst own dem, r = .op p args dst own dem ∧ p.still = true
  · obtain ⟨p, args, dst, own, dem, rfl, hps⟩ := hst
    obtain ⟨hS', rfl, rfl, rfl⟩ := sim_still hc hps hr
    obtain ⟨v, hv, rfl, rfl⟩ := hdo
    obtain ⟨u, q1, q2⟩ := hS' v hv
    exact wp_value q1 (hK _ _ _ _ (hr.put fun _ _ => q2))
  · have hno : ∀ {p args dst}, r = .op p args dst false none → p.still = false := fun {p args dst} he => by
      cases hp : p.still with
      | false => rfl
      | true => exact absurd ⟨p, args, dst, false, none, he, hp⟩ hst
    have haop : ∀ {p dst x}, aop p dst x = some r → p.still = false := fun {p dst x} he => by
      obtain ⟨args, _, e⟩ := aop_some he
      exact hno e
    unfold classify at hc
    split at hc
    · rename_i x ho
      split at hc
      · rename_i d hd
        obtain ⟨γ', hr'⟩ := sim_move hc hdo hr
        exact wp_value (w' := w) (v := a.eval x) (by simp [execOp, ho]) (hK _ _ _ _ (by rw [hd]; exact hr'))
      · cases hc
    · rename_i x ho
      split at hc
      · rename_i d hd
        obtain ⟨γ', hr'⟩ := sim_move hc hdo hr
        exact wp_value (w' := w) (v := a.eval x) (by simp [execOp, ho]) (hK _ _ _ _ (by rw [hd]; exact hr'))
      · cases hc
    · rename_i c x y ho
      split at hc
      · rename_i d hcs hd
        obtain ⟨γ', hr'⟩ := sim_move hc hdo hr
        obtain ⟨s, h1, _⟩ := opSlot_any hr hcs
        have h1 : a.eval c = .bool true := h1
        exact wp_value (w' := w) (v := a.eval x) (by simp [execOp, ho, h1, asBool]) (hK _ _ _ _ (by rw [hd]; exact hr'))
      · rename_i d hcs hd
        obtain ⟨γ', hr'⟩ := sim_move hc hdo hr
        obtain ⟨s, h1, _⟩ := opSlot_any hr hcs
        have h1 : a.eval c = .bool false := h1
        exact wp_value (w' := w) (v := a.eval y) (by simp [execOp, ho, h1, asBool]) (hK _ _ _ _ (by rw [hd]; exact hr'))
      · cases haop hc
    · rename_i t ho
      split at hc
      · rename_i d z hd hz
        split at hc
        · split at hc
          · rename_i hcond
            cases hc
            obtain ⟨rfl, rfl⟩ := hdo
            exact (sim_alloc_priv ho hd hz hcond.2 hr).wp hK
          · cases hc
        · rename_i hk
          refine (sim_boxOp (o := o) (a := a) (w := w) (γ0 := γ0) (w0 := w0) hc hdo (fun n h0 h1 h2 => absurd h0 (by simpa using hk)) fun h1 => sim_alloc_heap ho hd hz h1 hr).wp hK
      · cases hc
    · rename_i t x ho
      split at hc
      · rename_i d v hd hv
        exact (sim_boxOp (o := o) (a := a) (w := w) (γ0 := γ0) (w0 := w0) hc hdo (fun n _ h1 h2 => sim_box_priv ho hd hv h1 h2 hr) fun h1 => sim_box_heap ho hd hv h1 hr).wp hK
      · cases hc
    · split at hc
      · split at hc
        · cases haop hc
        · cases hc
      · cases hc
    · rename_i t len parts ho
      split at hc
      · rename_i e ht
        split at hc
        · rename_i n hn
          split at hc
          · rename_i hcond
            cases ha : opVals C σ (parts.toList.map (·.2)) with
            | none => rw [ha] at hc; cases hc
            | some args =>
              rw [ha] at hc; cases hc
              obtain ⟨v, hv, rfl, rfl⟩ := hdo
              exact (sim_mksl ho ht hn hcond.1 hcond.2 ha hv hr).wp hK
          · cases hc
        · cases hc
      · cases hc
    · rename_i t x ho
      split at hc
      · rename_i d hd
        by_cases hp : ∃ ws, r = .pure ws
        · exact (sim_load_priv ho hd hc hp hdo hr).wp hK
        · unfold loadOp at hc
          split at hc
          · rename_i n p ht hx
            cases hc
            obtain ⟨v, hv, rfl, rfl⟩ := hdo
            have hs := sim_load ho ht hx hv hr
            rw [hd] at hs
            exact hs.wp hK
          · split at hc
            · simp only at hc
              split at hc <;> (cases hc; exact absurd ⟨_, rfl⟩ hp)
            · cases hc
          · split at hc
            · cases hc; exact absurd ⟨_, rfl⟩ hp
            · cases hc
          · cases hc
      · cases hc
    · rename_i t x y ho
      split at hc
      · rename_i hd
        have hc' := hc
        unfold storeOp at hc
        split at hc
        · rename_i n p v hsz hx hv
          cases hc
          obtain ⟨hst', rfl⟩ := hdo
          exact (sim_store ho hd hsz hx hv hst' hr).wp hK
        · split at hc
          · cases hc
            exact (sim_bstore ho hd hc' hdo hr).wp hK
          · cases hc
        · cases hc
      · cases hc
    · rename_i x ho
      split at hc
      · rename_i s ver cs ow d hd hs
        cases hc
        obtain ⟨rfl, rfl⟩ := pure_lref hdo
        have he := opSlot_box hr hs
        exact wp_value (w' := w) (v := .pointer (some ⟨β s, 0, none⟩)) (by simp [execOp, ho, he]) (hK _ _ _ _ (by rw [hd]; exact hr.put (d := some d) fun _ _ => rfl))
      · rename_i s k d hd hs
        cases hc
        obtain ⟨rfl, rfl⟩ := pure_lref hdo
        have he := opSlot_lref hr hs
        exact wp_value (w' := w) (v := .pointer (some ⟨β s, k, none⟩)) (by simp [execOp, ho, he]) (hK _ _ _ _ (by rw [hd]; exact hr.put (d := some d) fun _ _ => rfl))
      · cases haop hc
    · split at hc
      · rename_i p hp
        have hps := haop hc
        rw [binKind_still hp] at hps
        cases hps
      · cases hc
    · cases haop hc
    · rename_i src dst' x ho
      split at hc
      · rename_i hq
        unfold convOp at hq
        cases hv : opVal C σ x with
        | none => rw [hv] at hc; cases hc
        | some v =>
          rw [hv] at hc; cases hc
          split at hq
          · cases hq
          · cases hq
          · rename_i e hs hd
            split at hq
            · rename_i he
              obtain ⟨v', u, h1, h2, rfl⟩ := hdo
              exact (sim_b2s ho hs hd he hv h1 h2 hr).wp hK
            · cases hq
          · split at hq <;> cases hq
          · cases hq
      · rename_i hq
        unfold convOp at hq
        split at hq
        · cases hq
        · cases hq
        · split at hq <;> cases hq
        · rename_i e hs hd
          split at hq
          · rename_i he _ _
            split at hc
            · cases hv : opVal C σ x with
              | none => rw [hv] at hc; cases hc
              | some v =>
                rw [hv] at hc; cases hc
                obtain ⟨u, h1, rfl⟩ := hdo
                exact (sim_bytesObj ho hs hd he hv h1 hr).wp hK
            · obtain ⟨args, ha, rfl⟩ := aop_some hc
              obtain ⟨u, h1, rfl, rfl⟩ := hdo
              obtain ⟨v, rfl, _⟩ := args_one hr ha
              exact (sim_s2b ho hs hd he ha h1 hr).wp hK
          · cases hq
        · cases hq
      · rename_i p hn1 hn2 hq
        have hps := haop hc
        unfold convOp at hq
        split at hq
        · cases hq; cases hps
        · cases hq
        · split at hq
          · cases hq; exact absurd rfl hn1
          · cases hq
        · split at hq
          · cases hq; exact absurd rfl hn2
          · cases hq
        · cases hq
      · cases hc
    · rename_i fn first captured ho
      split at hc
      · rename_i d as bs fz hd ha hb
        cases hc
        obtain ⟨rfl, rfl⟩ := hdo
        exact (sim_closure ho hd ha hb hr).wp hK
      · cases hc
    · rename_i t ho
      cases hc
      obtain ⟨rfl, rfl⟩ := hdo
      exact (sim_mnew ho hr).wp hK
    · rename_i t l c ho
      split at hc
      · rename_i e ht
        split at hc
        · rename_i n b z vl vc hn hb hz hl hcc
          cases hc
          obtain ⟨v, h1, rfl⟩ := hdo
          exact (sim_make ho ht hn hb hz hl hcc h1 hr).wp hK
        · cases hc
      · cases hc
    · rename_i t m k x ho
      split at hc
      · rename_i kt e ht
        split at hc
        · rename_i vm vk vx hd hk ha
          cases hc
          obtain ⟨h1, rfl⟩ := hdo
          exact (sim_mset (.inl ho) hd ht hk ha h1 hr).wp hK
        · cases hc
      · cases hc
    · rename_i t m k x ho
      split at hc
      · rename_i kt e ht
        split at hc
        · rename_i vm vk vx hd hk ha
          cases hc
          obtain ⟨h1, rfl⟩ := hdo
          exact (sim_mset (.inr ho) hd ht hk ha h1 hr).wp hK
        · cases hc
      · cases hc
    · rename_i t m k ok ho
      split at hc
      · rename_i kt e ht
        split at hc
        · rename_i z vm vk hk hz ha
          cases hc
          obtain ⟨v, h1, rfl, rfl⟩ := hdo
          exact (sim_mget ho ht hk hz ha h1 hr).wp hK
        · cases hc
      · cases hc
    · split at hc
      · cases haop hc
      · split at hc
        · cases haop hc
        · cases hc
      · cases hc
    · rename_i t x f ho
      split at hc
      · rename_i off sh d hf hd
        split at hc
        · rename_i s ver cs ow hs
          cases hc
          obtain ⟨rfl, rfl⟩ := pure_lref hdo
          have he := opSlot_box hr hs
          exact wp_value (w' := w) (v := .pointer (some ⟨β s, off, none⟩)) (by simp only [execOp, ho, he]; exact run_value (by rw [run_fieldAt_addr hf]; simp)) (hK _ _ _ _ (by rw [hd]; exact hr.put (d := some d) fun _ _ => rfl))
        · rename_i s k hs
          cases hc
          obtain ⟨rfl, rfl⟩ := pure_lref hdo
          have he := opSlot_lref hr hs
          exact wp_value (w' := w) (v := .pointer (some ⟨β s, k + off, none⟩)) (by simp only [execOp, ho, he]; exact run_value (run_fieldAt_addr hf _ _)) (hK _ _ _ _ (by rw [hd]; exact hr.put (d := some d) fun _ _ => rfl))
        · cases haop hc
      · cases hc
    · split at hc
      · cases haop hc
      · cases hc
    · split at hc
      · split at hc
        · cases haop hc
        · cases hc
      · split at hc
        · split at hc
          · cases hc
          · cases haop hc
        · cases hc
      · cases hc
    · split at hc
      · cases haop hc
      · split at hc
        · cases haop hc
        · cases hc
      · cases hc
    · cases haop hc
    · rename_i c ho
      unfold callOp at hc
      split at hc
      · split at hc
        · split at hc
          · cases haop hc
          · cases haop hc
          · cases hc
        · cases hc
      · rename_i hcl
        split at hc
        · rename_i t t' s x h0 h1 hargs
          split at hc
          all_goals first
            | (cases hc; done)
            | (rename_i e _ ht ht'
               split at hc
               · rename_i n b hn hb
                 split at hc
                 · rename_i hcond
                   simp only [Bool.and_eq_true] at hcond
                   split at hc
                   · rename_i v u ha
                     split at hc
                     · cases hc
                       obtain ⟨r', h3, rfl⟩ := hdo
                       exact (sim_objOf ho hcl h0 h1 hargs ht (by first | exact .inl ⟨_, ht'⟩ | exact .inr ht') hn hb hcond.1 hcond.2 ha h3 hr).wp hK
                     · cases hc
                       obtain ⟨r', h3, rfl, rfl⟩ := hdo
                       exact (sim_append ho hcl h0 h1 hargs ht (by first | exact .inl ⟨_, ht'⟩ | exact .inr ht') hn hb hcond.1 hcond.2 ha h3 hr).wp hK
                   · cases hc
                 · cases hc
               · cases hc)
        · cases hc
      · split at hc
        · cases haop hc
        · cases hc
      · split at hc
        · cases haop hc
        · cases hc
      · rename_i f hcl
        cases ha : opVals C σ c.args.toList with
        | none => rw [ha] at hc; cases hc
        | some args =>
          rw [ha] at hc
          simp only [Option.map_some, Option.some.injEq] at hc
          split at hc
          · cases hc
            obtain ⟨hfl, rv, h1, h2, h3, rfl, rfl⟩ := hdo
            exact sim_pcall hS ho hcl ha hfl h2 h3 hr fun γ' v w' hr' => hK _ _ _ _ hr'
          · cases hc
            obtain ⟨rv, h1, rfl⟩ := hdo
            exact sim_call hS ho hcl ha h1 hr fun γ' v w' hr' => hK _ _ _ _ hr'
      · rename_i g hn hcl
        split at hc
        · rename_i gv args hg ha
          cases hc
          obtain ⟨f, args', rv, h0, h1, rfl⟩ := hdo
          exact sim_callv hS ho hcl hg ha h0 h1 hr fun γ' v w' hr' => hK _ _ _ _ hr'
        · cases hc
      · cases hc
    · cases hc
end
end Go.Am
